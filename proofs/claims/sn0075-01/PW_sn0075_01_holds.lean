import PyProof.Rows.All
import Wide.All
import OpenK.AllK
import Wide.FinOn
import KE.IntBitsLaws
import Lean
import PySem.Challenge.RW_sn0075_01
set_option Elab.async false
set_option maxRecDepth 100000
set_option linter.unusedVariables false
set_option linter.unusedSimpArgs false
set_option rowWalk.seconds 0
namespace Mine
section PartHd
open PySem PySem.W PyProof.Rows
noncomputable abbrev Pp : Program := PySem.Challenge.rw_sn0075_01.row.prog
/-- of the top the law alone -/
noncomputable def viewB (B : List Stmt) : List Stmt := B.drop 78
noncomputable def view : Program := { Pp with main := { Pp.main with body := viewB Pp.main.body } }
noncomputable abbrev looseN : List Str := [Str.ofString "compute_powers", Str.ofString "_DIV_LIMIT", Str.ofString "_div2n1n", Str.ofString "_div3n2n", Str.ofString "_int2digits", Str.ofString "_digits2int", Str.ofString "_divmod_pos", Str.ofString "int_divmod", Str.ofString "insort_right", Str.ofString "bisect_right", Str.ofString "bisect_left", Str.ofString "ENDMARKER", Str.ofString "LPAR", Str.ofString "RPAR", Str.ofString "LSQB", Str.ofString "RSQB", Str.ofString "COLON", Str.ofString "COMMA", Str.ofString "SEMI", Str.ofString "PLUS", Str.ofString "MINUS", Str.ofString "STAR", Str.ofString "SLASH", Str.ofString "VBAR", Str.ofString "AMPER", Str.ofString "LESS", Str.ofString "GREATER", Str.ofString "EQUAL", Str.ofString "DOT", Str.ofString "PERCENT", Str.ofString "LBRACE", Str.ofString "RBRACE", Str.ofString "EQEQUAL", Str.ofString "NOTEQUAL", Str.ofString "LESSEQUAL", Str.ofString "GREATEREQUAL"] ++ [Str.ofString "TILDE", Str.ofString "CIRCUMFLEX", Str.ofString "LEFTSHIFT", Str.ofString "RIGHTSHIFT", Str.ofString "DOUBLESTAR", Str.ofString "PLUSEQUAL", Str.ofString "MINEQUAL", Str.ofString "STAREQUAL", Str.ofString "SLASHEQUAL", Str.ofString "PERCENTEQUAL", Str.ofString "AMPEREQUAL", Str.ofString "VBAREQUAL", Str.ofString "CIRCUMFLEXEQUAL", Str.ofString "LEFTSHIFTEQUAL", Str.ofString "RIGHTSHIFTEQUAL", Str.ofString "DOUBLESTAREQUAL", Str.ofString "DOUBLESLASH", Str.ofString "DOUBLESLASHEQUAL", Str.ofString "AT", Str.ofString "ATEQUAL", Str.ofString "RARROW", Str.ofString "ELLIPSIS", Str.ofString "COLONEQUAL", Str.ofString "EXCLAMATION", Str.ofString "NT_OFFSET", Str.ofString "EXACT_TOKEN_TYPES", Str.ofString "ISNONTERMINAL", Str.ofString "ISEOF", Str.ofString "_MOVE_COST", Str.ofString "_CASE_COST", Str.ofString "_substitution_cost", Str.ofString "_law_draw", Str.ofString "_law_value", Str.ofString "_law_table", Str.ofString "_law_hinder", Str.ofString "_law_paired", Str.ofString "_law_told"]
theorem map_pair {α β γ : Type} {o : Option α} {f : α → β} {g : α → γ} {a : β} {b : γ} (h1 : o.map f = some a) (h2 : o.map g = some b) : o.map (fun s => (f s, g s)) = some (a, b) := by
  cases o with
  | none => cases h1
  | some s =>
    have e1 := Option.some.inj h1
    have e2 := Option.some.inj h2
    show some (f s, g s) = some (a, b)
    rw [e1, e2]
theorem words_hd : True := by
  k_with "mine:law" => (refine holds_law (by rewrite [PySem.W.Fast.te9446332074065402090]; kernel_rfl) fun said => ?_)
  trivial
noncomputable def openB (said : Challenge.rw_sn0075_01.row.wellSaid = true) := fun (H : Hook) (hw : Challenge.rw_sn0075_01.row.toRowW.promised) (hLW : _ ∧ _) => holds_open (r := Challenge.rw_sn0075_01.row) (q := view) (loose := looseN) (Xt := fun s => xlAt view [] s && recOk (RowW.records PySem.Challenge.rw_sn0075_01.row.toRowW) s) (XP := XL view []) (Yf := Hook.obs H) (Ya := Hook.val H) (YP := Hook.says H) (N := 4486) (And.left hLW) (Hook.of H) (Hook.keeps H) (fun s e => xl_of s (Bool.and_eq_true_iff.mp e).1) XL.keeps (by rfl) (by rfl) (by rfl) (fun s e => recFacts_of (Bool.and_eq_true_iff.mp e).2) (by rfl) said (by decide +kernel) ⟨rfl, rfl, rfl, rfl, rfl, by decide +kernel⟩ hw (And.right hLW)
local macro_rules | `(tactic| o_law) => `(tactic| k_extra "mine:law")
local macro_rules | `(tactic| o_head $H) => `(tactic| refine openB (by assumption) $H ?hw ?hc)
set_option maxRecDepth 1000000 in
set_option maxHeartbeats 8000000 in
open_top hd for PySem.Challenge.rw_sn0075_01
noncomputable abbrev H := kmHook hd.heap_1 [2, 3, 15, 16, 18, 19, 21, 22, 23, 25, 26, 28, 29, 30, 32, 33, 35, 36, 37, 39, 40, 42, 43, 44, 46, 47, 49, 50, 51, 53, 54, 56, 57, 58, 60, 61, 63, 64, 65, 66, 67, 69, 70, 72, 73, 74, 75, 76, 78, 79, 81, 82, 83, 84, 85, 87, 88, 90, 91, 92, 95, 97, 98, 100, 101, 102, 104, 105, 107, 108, 109, 111, 112, 114, 115, 116, 118, 119, 121, 122, 123, 125, 126, 128, 129, 130, 132, 133, 135, 136, 137, 139, 140, 142, 143, 144, 147, 148, 149, 151, 152, 154, 155, 156, 159, 160] (fun _ => by kernel_rfl) [45, 38]
noncomputable def seenF (w : World) (b : Bool) (s₀ : Shared) := (topFrom treeTable Pp (w.withFollow "special-get-raises" b) 4486 s₀).map (fun s => (openSeen view looseN (importedModules Pp.main.body) (fun s => xlAt view [] s && recOk (RowW.records PySem.Challenge.rw_sn0075_01.row.toRowW) s) true s, Hook.obs H s))
set_option maxHeartbeats 0 in
theorem top_false : ∀ w : World, (fencedOpening treeTable Pp w 4486).map (seenF w false) = some (some (openGood view looseN, Hook.val H (w.withFollow "special-get-raises" false))) := fun w => by unfold seenF fencedOpening topFrom; rewrite [PySem.W.Fast.te10274390034422433532, PySem.W.Fast.te14289696077712309145, PySem.W.Fast.te14082659384304107361, PySem.W.Fast.te4187177175401517315, PySem.W.Fast.te14364793385576792824, PySem.W.Fast.te1435165496053646825, PySem.W.Fast.te5923862056798008813, PySem.W.Fast.te8920871248978507458]; kernel_rfl
set_option maxHeartbeats 0 in
theorem top_true : ∀ w : World, (fencedOpening treeTable Pp w 4486).map (seenF w true) = some (some (openGood view looseN, Hook.val H (w.withFollow "special-get-raises" true))) := fun w => by unfold seenF fencedOpening topFrom; rewrite [PySem.W.Fast.te10274390034422433532, PySem.W.Fast.te14289696077712309145, PySem.W.Fast.te14082659384304107361, PySem.W.Fast.te4187177175401517315, PySem.W.Fast.te14364793385576792824, PySem.W.Fast.te1435165496053646825, PySem.W.Fast.te5923862056798008813, PySem.W.Fast.te8920871248978507458]; kernel_rfl
theorem left0 : LeftO Pp view looseN (fun s => xlAt view [] s && recOk (RowW.records PySem.Challenge.rw_sn0075_01.row.toRowW) s) (Hook.obs H) (Hook.val H) 4486 := LeftO.of_split "special-get-raises" (fun w => map_pair (top_false w) (top_true w))
end PartHd
open PySem PySem.W PySem.Calls PySem.Spec PyProof.Rows
local macro_rules | `(tactic| walk_at $s:str) => `(tactic| k_extra $s)
local macro_rules | `(tactic| k_ne) => `(tactic| k_extra "mine:ne")
local macro_rules | `(tactic| k_keys) => `(tactic| k_extra "mine:keys")
local macro_rules | `(tactic| k_lt $h:ident) => `(tactic| ((have hz9 := allLt_of $h); dsimp only [AllLt] at hz9))
local macro_rules | `(tactic| omega) => `(tactic| lia)
section PartSm
open PySem PySem.W PySem.Calls PySem.Spec PyProof.Rows
/-- a goal where the walk is to stop -/
noncomputable def Stay (P : Prop) : Prop := P
theorem stay {P : Prop} (h : Stay P) : P := h
theorem wp_stay {α : Type} {M : Model} {A : Around} {m : Sem α} {Q : α → Shared → Prop} {E : Value → Shared → Prop} {s : Shared} (h : Stay (wpAny M A m Q E s)) : wpAny M A m Q E s := h
/-- one more name of the frame -/
noncomputable abbrev up (x : Str) (v : Value) (m : Str → Option Value) : Str → Option Value := fun y => if y = x then some v else m y
theorem storeU {M : Model} {A : Around} {E : Value → Shared → Prop} {h₀ h : Heap} {L a : Addr} {m : Str → Option Value} {cn : Str} {cs : Scope} {ccd : Value} {cl : List (Str × Addr)} {x : Str} {v : Value} {Q : Unit → Shared → Prop} {news : List (Addr × Obj)} {g d tk o} (F : Fr h₀ L h m) (N : News h₀ L h news)
    (k : ∀ h' tk', Fr h₀ L h' (up x v m) → News h₀ L h' news → Q () ⟨h', g, d, tk', o⟩)
    (hk : cs.kind = .function) (hx : (envX cn cs L a ccd cl).kindOf x = some .local) : wpAny M A (storeName (envX cn cs L a ccd cl) x v) Q E ⟨h, g, d, tk, o⟩ := storeX_L F N (fun h' => k h' _) hk hx
theorem storeI {M : Model} {A : Around} {E : Value → Shared → Prop} {h₀ h : Heap} {L a : Addr} {m : Str → Option Value} {cn : Str} {cs : Scope} {ccd : Value} {cl : List (Str × Addr)} {x : Str} {n : Int} {t : Tok} {Q : Unit → Shared → Prop} {news : List (Addr × Obj)} {g d tk o} (F : Fr h₀ L h m) (N : News h₀ L h news)
    (k : ∀ h' t' tk', Fr h₀ L h' (up x (.int n t') m) → News h₀ L h' news → Q () ⟨h', g, d, tk', o⟩)
    (hk : cs.kind = .function) (hx : (envX cn cs L a ccd cl).kindOf x = some .local) : wpAny M A (storeName (envX cn cs L a ccd cl) x (.int n t)) Q E ⟨h, g, d, tk, o⟩ := storeX_L F N (fun h' => k h' t _) hk hx
theorem lt_led {l : List (Addr × Obj)} {a d : Addr} {o : Obj} (h : ∀ p ∈ l, p.1 < d) (hm : (a, o) ∈ l) : @LT.lt Nat _ a d := h _ hm
theorem ne_lt {a b : Nat} (h : a < b) : a ≠ b := Nat.ne_of_lt h
theorem ne_gt {a b : Nat} (h : b < a) : a ≠ b := Nat.ne_of_gt h
theorem Zs {a b : Nat} (h : a ≠ b) : b ≠ a := h.symm
theorem Zl {a b : Nat} (h : a < b) : a ≠ b := Nat.ne_of_lt h
theorem Zg {a b : Nat} (h : b < a) : a ≠ b := Nat.ne_of_gt h
theorem sub_nil {α : Type} {l' : List α} : ∀ q ∈ ([] : List α), q ∈ l' := fun _ h => nomatch h
theorem sub_cons {α : Type} {x : α} {l l' : List α} (hx : x ∈ l') (h : ∀ q ∈ l, q ∈ l') : ∀ q ∈ x :: l, q ∈ l' := List.forall_mem_cons.mpr ⟨hx, h⟩
theorem sub_id {α : Type} {l : List α} : ∀ q ∈ l, q ∈ l := fun _ h => h
theorem sub_skip {α : Type} {x : α} {l l' : List α} (h : ∀ q ∈ l, q ∈ l') : ∀ q ∈ l, q ∈ x :: l' := fun q hq => .tail _ (h q hq)
theorem sub_right {α : Type} {l a b : List α} (h : ∀ q ∈ l, q ∈ b) : ∀ q ∈ l, q ∈ a ++ b := fun q hq => List.mem_append_right _ (h q hq)
theorem sub_left {α : Type} {l a b : List α} (h : ∀ q ∈ l, q ∈ a) : ∀ q ∈ l, q ∈ a ++ b := fun q hq => List.mem_append_left _ (h q hq)
theorem sub_both {α : Type} {l a b : List α} (h1 : ∀ q ∈ a, q ∈ l) (h2 : ∀ q ∈ b, q ∈ l) : ∀ q ∈ a ++ b, q ∈ l := fun q hq => (List.mem_append.mp hq).elim (h1 q) (h2 q)
theorem sub_app {α : Type} {l l' : List α} {q : α} (h : ∀ q ∈ l, q ∈ l') (hq : q ∈ l) : q ∈ l' := h q hq
theorem execs_let {M : Model} {A : Around} {E : Value → Shared → Prop} {s : Shared} {env : Env} {st : Stmt} {rest : List Stmt} {Q : Flow → Shared → Prop}
    (h : let Q1 := fun f s' => match f with | Flow.next => wpAny M A (execs rest env) Q E s' | f => Q f s'; wpAny M A (exec st env) Q1 E s) : wpAny M A (execs (st :: rest) env) Q E s := wpAny_execs_cons h
noncomputable def strB (v : Value) : Bool := match v with | .str _ _ => true | _ => false
noncomputable def strV (v : Value) : Str := match v with | .str x _ => x | _ => Str.ofString ""
theorem keys_of {P : Params} : ∀ {l : List DictEntry}, l.all (fun e => strB e.key) = true → l.map (fun e => e.hash) = l.map (fun e => PyData.keyHash P (strV e.key)) → KeysLit P l
  | [], _, _ => trivial
  | e :: r, h1, h2 => by
    rw [List.all_cons, Bool.and_eq_true] at h1
    rw [List.map_cons, List.map_cons] at h2
    obtain ⟨h3, h4⟩ := List.cons.inj h2
    refine ⟨?_, keys_of h1.2 h4⟩
    have h5 := h1.1
    cases hk : e.key with
    | str x t => rw [hk] at h3; exact ⟨x, t, rfl, h3⟩
    | _ => rw [hk] at h5; cases h5
end PartSm
section PartInf
open PySem PySem.W PySem.Calls PySem.Spec PyProof.Rows

noncomputable def Ext (h h' : Heap) : Prop := ∀ b o, h.get? b = some o → h'.get? b = some o

noncomputable def RetP (s : Shared) (P : Value → Heap → Prop) (r : Result) (s' : Shared) : Prop :=
  match r with
  | .ok (.ret v) => ∃ h' tk, s' = { s with heap := h', toks := tk } ∧ Ext s.heap h' ∧ P v h'
  | _ => False

theorem retP {s : Shared} {P : Value → Heap → Prop} {v : Value} {h' : Heap} {tk : Nat} {L : Addr} {m : Str → Option Value} (F : Fr s.heap L h' m) (p : P v h') :
    RetP s P (.ok (.ret v)) { s with heap := h', toks := tk } := ⟨h', tk, rfl, F.keep, p⟩

noncomputable abbrev Pg : Program := PySem.Challenge.rw_sn0075_01.row.prog

section
variable {w : World} {A₀ : Around} {s : Shared} {base h₀ : Heap} {outer : List Env} {L : Addr} {m mg mb : Str → Option Value} {K : Frag} {p : Program} {loose : List Str} {mean : ExcName → Option Value}
  {P : Value → Heap → Prop} {name qual : Str} {params : Arguments} {body : List Stmt} {scope : Scope} {dV kV doc pm cdv ct oc : Value} {an od : Option Addr} {osl : Array (Option Value)} {f : Addr} {args : Args} {binds : List (Str × Value)}
  {dp un : Nat} {gd : Option (List Code)} {cn : Str} {cs : Scope} {a : Addr} {ccd : Value} {cl : List (Str × Addr)} {prog : Program}

theorem enter0 (B : Below A₀ base outer h₀) (F : Fr h₀ L s.heap m) (X₀ : K.In h₀) (T : Top p loose mean mg mb h₀) (hke : cs.kind = .function) (hroom : dp < recursionLimit)
    (ho : K.lookup f = some ⟨oc, od, .func (fnOf name qual params body scope dV kV doc pm an cdv ct), osl⟩) (hcd : codeIn K cdv qual = true)
    (hbind : BindsTo s (fnOf name qual params body scope dV kV doc pm an cdv ct) args binds) (hloc : ∀ y ∈ binds, scope.names.lookup y.1 = some .local)
    (h : ∀ L' h₁ tk, Fr s.heap L' h₁ (fun y => binds.reverse.lookup y) → News s.heap L' h₁ [] → Below (ktrTop dp un gd cn cs L a ccd cl outer) base (envX cn cs L a ccd cl :: outer) s.heap → K.In s.heap → Top p loose mean mg mb s.heap →
      wpAny (model prog w) ((ktrTop dp un gd cn cs L a ccd cl outer).deeper (envOf qual scope L' f cdv)) (execs body (envOf qual scope L' f cdv))
        (fun fl s' => RetP s P (.ok (.ret (match fl with | .ret v => v | _ => .none))) s') (fun _ _ => False)
        { s with heap := h₁, toks := tk })
    (hco : scope.isCoroutine = false) (hgen : scope.isGenerator = false) (hk : scope.kind = .function)
    (hcell : ∀ x ∈ scope.names, x.2 ≠ .cell) : codeAny (model prog w) (ktrTop dp un gd cn cs L a ccd cl outer) (.call (.ref f) args) (RetP s P) s := by
  have FG := groundX (R := RetP s P) (A := ktrTop dp un gd cn cs L a ccd cl outer) (env := envX cn cs L a ccd cl) B F (News.nil) rfl rfl hke
  have F₁ : Fr h₀ L s.heap m := FG.1
  have B₁ : Below (ktrTop dp un gd cn cs L a ccd cl outer) base (envX cn cs L a ccd cl :: outer) s.heap := FG.2.1
  refine codeAny_call_def (fd := fnOf name qual params body scope dV kV doc pm an cdv ct) (body := body) (binds := binds) hroom ((X₀.keeps F.keep) _ _ ho) rfl (T.nolimit.keeps F.keep) (codeRec_of (X₀.keeps F.keep) hcd) rfl hbind hcell hloc (fun h₁ hns hk₁ => ?_) hco hgen hk
  exact wpAny_mono (h s.heap.objs.size h₁ _ ⟨hns, hk₁, Nat.le_refl _⟩ News.nil B₁ (X₀.keeps F₁.keep) (T.keeps F₁.keep)) (fun fl s' hl => hl) fun _ _ y => y.elim
end

section
variable {prog : Program} {w : World} {A : Around} {E : Value → Shared → Prop} {s : Shared} {h₀ : Heap} {L : Addr} {m : Str → Option Value} {news : List (Addr × Obj)} {P : Value → Heap → Prop} {Q : Value → Shared → Prop} {f : Value} {args : List Value}

theorem Ext.fr {h h' : Heap} (e : Ext h h') (F : Fr h₀ L h m) : Fr h₀ L h' m := ⟨F.ns.keeps e, fun b o q => e b o (F.keep b o q), F.above⟩
theorem Ext.ledger {h h' : Heap} (e : Ext h h') (N : News h₀ L h news) : News h₀ L h' news := fun p hp => ⟨e _ _ (N p hp).1, (N p hp).2⟩

theorem use_spec (F : Fr h₀ L s.heap m) (N : News h₀ L s.heap news) (h : codeAny (model prog w) A (.call f ⟨args, []⟩) (RetP s P) s)
    (k : ∀ v h' tk, Fr h₀ L h' m → News h₀ L h' news → Ext s.heap h' → P v h' → Q v { s with heap := h', toks := tk }) : wpAny (model prog w) A (call f args) Q E s := by
  refine wpAny_call (codeAny_mono h ?_)
  intro r s' hr
  match r, hr with
  | .ok (.ret v), ⟨h', tk, e, x, p⟩ =>
    subst e
    exact k v h' tk (Ext.fr x F) (Ext.ledger x N) x p
end

noncomputable def NewInts (s : Shared) (ks : List Int) (v : Value) (h' : Heap) : Prop := ∃ D vs n, v = .ref D ∧ s.heap.get? D = none ∧ h'.get? D = some (W.listOf vs.toArray n) ∧ IntsAre vs ks
theorem newInts {s : Shared} {ks : List Int} {D : Addr} {vs : List Value} {n : Nat} {L : Addr} {h' : Heap} {news : List (Addr × Obj)} (N : News s.heap L h' news) (hm : (D, W.listOf vs.toArray n) ∈ news) (hi : IntsAre vs ks) : NewInts s ks (.ref D) h' :=
  ⟨D, vs, n, rfl, (N _ hm).2.2, (N _ hm).1, hi⟩
end PartInf
section PartLp
open PySem PySem.W PySem.Calls PySem.Spec PyProof.Rows PyProof.V

section
variable {prog : Program} {w : World} {A : Around} {E : Value → Shared → Prop} {s : Shared} {env : Env} {h₀ : Heap} {target : Expr} {body : List Stmt} {Q : Flow → Shared → Prop}

/-- a loop over a list that stands below the frame, by an invariant over its turns -/
theorem iter_turnsB {ax : Addr} {vs : List Value} {m₀ : Str → Option Value} {news : List (Addr × Obj)} (J : Nat → (Str → Option Value) → List (Addr × Obj) → Prop)
    (hh : A.handled = none) (hl : h₀.IsList ax vs.toArray) (F : Fr h₀ env.locals s.heap m₀) (N : News h₀ env.locals s.heap news) (hj : J 0 m₀ news)
    (turn : ∀ i v m₁ news₁ h tk own, vs[i]? = some v → news₁.map (·.1) = news.map (·.1) → OwnOff own (news.map (·.1)) → J i m₁ news₁ → Fr h₀ env.locals h m₁ → News h₀ env.locals h (news₁ ++ own) →
      wpAny (model prog w) A (assign target env v) (fun _ s₂ => wpAny (model prog w) A (execs body env) (InvPostN h₀ env.locals (J (i + 1)) own (news.map (·.1)) { s with heap := h, toks := tk } Q) E s₂) E { s with heap := h, toks := tk })
    (done : ∀ m₁ news₁ h tk, J vs.length m₁ news₁ → Fr h₀ env.locals h m₁ → News h₀ env.locals h news₁ → Q .next { s with heap := h, toks := tk }) :
    wpAny (model prog w) A (pyIter (.ref ax)) (fun it s₂ => TurnsAt prog w A h₀ env target body Q E it s₂) E s := by
  have hls : s.heap.IsList ax vs.toArray := hl.at fun o e => F.keep ax o e
  obtain ⟨ol, hol, _⟩ := id hl
  have hlt : ax < h₀.objs.size := Heap.lt_size hol
  have hne : ax ≠ s.heap.objs.size := Nat.ne_of_lt (Nat.lt_trans (Nat.lt_of_lt_of_le hlt F.above) F.ns.lt)
  refine wpAny_pyIter_list hls ?_
  have W := KTurns.ofWalks (target := target) (Walks.list (prog := prog) (w := w) hh s.heap.objs.size ax hne vs.toArray) (fun i v s Q E st q => letGo_listiter st.1 q)
  have hlen : vs.toArray.size = vs.length := by simp
  rw [hlen] at W
  let J' : Nat → (Str → Option Value) → List (Addr × Obj) → Prop := fun i m₁ news₁ => news₁.map (·.1) = news.map (·.1) ∧ J i m₁ news₁
  refine ⟨_, _, _, vs.length, _, _, _, m₀, news, J', rfl, W, ?_, ?_, ?_, ⟨⟨_, Heap.get?_push_size _ rfl, rfl, rfl⟩, hls.at fun o e => Heap.get?_push_of_some _ e⟩, F.push _, (fun p hp => ⟨Heap.get?_push_of_some _ (N p hp).1, (N p hp).2⟩), ⟨rfl, hj⟩, ?_, ?_⟩
  · intro hm
    rcases List.mem_cons.mp hm with e | hm
    · exact absurd F.ns.lt (e ▸ Nat.lt_irrefl _)
    · exact absurd (Nat.lt_of_lt_of_le hlt F.above) ((List.mem_singleton.mp hm) ▸ Nat.lt_irrefl _)
  · intro b hb
    rw [List.mem_singleton.mp hb]
    exact next_is_new F
  · intro p hp hI
    exact absurd (Heap.lt_size (N p hp).1) ((List.mem_singleton.mp hI) ▸ Nat.lt_irrefl _)
  · rintro i v m₁ news₁ hh' tk' own hin hP ⟨hadr, hJ⟩ hoff hown _ _ _ F₁ N₁
    have hsep : OwnOff own (news.map (·.1)) := by
      intro p hp b hb e
      obtain ⟨q, hq, rfl⟩ := List.mem_map.mp hb
      rcases List.mem_cons.mp (hown p hp) with h1 | h1
      · exact absurd (Heap.lt_size (N q hq).1) (by rw [← e, h1]; exact Nat.lt_irrefl _)
      · have h2 := List.mem_singleton.mp h1
        have h3 := (N q hq).2.2
        rw [← e, h2, hol] at h3
        cases h3
    have hv : vs[i]? = some v := by simpa using hP
    have N₂ : News h₀ env.locals hh' (news₁ ++ own) := fun p hp => N₁ p ((List.mem_append.mp hp).elim (fun h => List.mem_append.mpr (.inr h)) fun h => List.mem_append.mpr (.inl h))
    refine wpAny_mono (turn i v m₁ news₁ hh' tk' own hv hadr hsep hJ F₁ N₂) (fun _ s₂ p₂ => wpAny_mono p₂ (fun f s₃ p => ?_) fun _ _ e => e) fun _ _ e => e
    have fin : InvEndN h₀ env.locals (J (i + 1)) own (news.map (·.1)) { s with heap := hh', toks := tk' } s₃ → LoopStepU h₀ env.locals [s.heap.objs.size] own (J' (i + 1)) { s with heap := hh', toks := tk' } .next s₃ := by
      rintro ⟨h', tk, m', news', nx, e, F', N', hn, ho, ha, hm⟩
      refine ⟨rfl, h', tk, m', nx, e, F', fun p hp => N' p ((List.mem_append.mp hp).elim (ho p) (hn p)), fun p hp hq => ?_, ha, hm⟩
      have h1 : p.1 ∈ nx.map (·.1) := List.mem_map.mpr ⟨p, hp, rfl⟩
      rw [ha, ← hadr] at h1
      obtain ⟨q, hq1, hq2⟩ := List.mem_map.mp h1
      exact hoff q hq1 (by rw [hq2]; exact hq)
    cases f with
    | ret v => exact .ret p
    | brk => exact .brk p
    | next => exact .next (fin p)
    | cont => exact .cont (fin p)
  · rintro h' tk m' news' F' N' _ ⟨_, hJ⟩
    exact done m' news' h' tk hJ F' N'

/-- the same over a list of the ledger -/
theorem iter_turnsL {ax : Addr} {lo : Obj} {vs : List Value} {n : Nat} {m₀ : Str → Option Value} {news : List (Addr × Obj)} (J : Nat → (Str → Option Value) → List (Addr × Obj) → Prop)
    (hh : A.handled = none) (F : Fr h₀ env.locals s.heap m₀) (N : News h₀ env.locals s.heap ((ax, lo) :: news)) (hc : lo.cls = .type "list") (hd : lo.data = .seq vs.toArray n) (hax : ∀ p ∈ news, p.1 ≠ ax) (hj : J 0 m₀ news)
    (turn : ∀ i v m₁ news₁ h tk own, vs[i]? = some v → news₁.map (·.1) = news.map (·.1) → OwnOff own (news.map (·.1)) → J i m₁ news₁ → Fr h₀ env.locals h m₁ → News h₀ env.locals h ((ax, lo) :: (news₁ ++ own)) →
      wpAny (model prog w) A (assign target env v) (fun _ s₂ => wpAny (model prog w) A (execs body env) (InvPostN h₀ env.locals (J (i + 1)) own (news.map (·.1)) { s with heap := h, toks := tk } Q) E s₂) E { s with heap := h, toks := tk })
    (done : ∀ m₁ news₁ h tk, J vs.length m₁ news₁ → Fr h₀ env.locals h m₁ → News h₀ env.locals h ((ax, lo) :: news₁) → Q .next { s with heap := h, toks := tk }) :
    wpAny (model prog w) A (pyIter (.ref ax)) (fun it s₂ => TurnsAt prog w A h₀ env target body Q E it s₂) E s := by
  have hax0 := N _ (.head _)
  have hls : s.heap.IsList ax vs.toArray := ⟨lo, hax0.1, hc, n, hd⟩
  have hlt : ax < s.heap.objs.size := Heap.lt_size hax0.1
  have hne : ax ≠ s.heap.objs.size := Nat.ne_of_lt hlt
  refine wpAny_pyIter_list hls ?_
  have W := KTurns.ofWalks (target := target) (Walks.list (prog := prog) (w := w) hh s.heap.objs.size ax hne vs.toArray) (fun i v s Q E st q => letGo_listiter st.1 q)
  have hlen : vs.toArray.size = vs.length := by simp
  rw [hlen] at W
  let J' : Nat → (Str → Option Value) → List (Addr × Obj) → Prop := fun i m₁ news₁ => ∃ n1, news₁ = (ax, lo) :: n1 ∧ n1.map (·.1) = news.map (·.1) ∧ J i m₁ n1
  refine ⟨_, _, _, vs.length, _, _, _, m₀, (ax, lo) :: news, J', rfl, W, ?_, ?_, ?_, ⟨⟨_, Heap.get?_push_size _ rfl, rfl, rfl⟩, hls.at fun o e => Heap.get?_push_of_some _ e⟩, F.push _, (fun p hp => ⟨Heap.get?_push_of_some _ (N p hp).1, (N p hp).2⟩), ⟨news, rfl, rfl, hj⟩, ?_, ?_⟩
  · intro hm
    rcases List.mem_cons.mp hm with e | hm
    · exact absurd F.ns.lt (e ▸ Nat.lt_irrefl _)
    · exact hax0.2.1 (List.mem_singleton.mp hm).symm
  · intro b hb
    rw [List.mem_singleton.mp hb]
    exact next_is_new F
  · intro p hp hI
    exact absurd (Heap.lt_size (N p hp).1) ((List.mem_singleton.mp hI) ▸ Nat.lt_irrefl _)
  · rintro i v m₁ news₁ hh' tk' own hin hP ⟨n1, rfl, hadr, hJ⟩ hoff hown hget hall _ F₁ N₁
    have hsep : OwnOff own (news.map (·.1)) := by
      intro p hp b hb e
      obtain ⟨q, hq, rfl⟩ := List.mem_map.mp hb
      rcases List.mem_cons.mp (hown p hp) with h1 | h1
      · exact absurd (Heap.lt_size (N q (.tail _ hq)).1) (by rw [← e, h1]; exact Nat.lt_irrefl _)
      · exact hax q hq (e.symm.trans (List.mem_singleton.mp h1))
    have hv : vs[i]? = some v := by simpa using hP
    have hlo : (ax, lo) ∈ own := by
      have h1 := N₁ (ax, lo) (List.mem_append_right _ (.head _))
      exact hall ax (by simp) h1.2.2 lo h1.1
    have N₂ : News h₀ env.locals hh' ((ax, lo) :: (n1 ++ own)) := fun p hp => by
      rcases List.mem_cons.mp hp with rfl | hp
      · exact N₁ _ (List.mem_append_right _ (.head _))
      · rcases List.mem_append.mp hp with hp | hp
        · exact N₁ _ (List.mem_append_right _ (.tail _ hp))
        · exact N₁ _ (List.mem_append_left _ hp)
    refine wpAny_mono (turn i v m₁ n1 hh' tk' own hv hadr hsep hJ F₁ N₂) (fun _ s₂ p₂ => wpAny_mono p₂ (fun f s₃ p => ?_) fun _ _ e => e) fun _ _ e => e
    have fin : InvEndN h₀ env.locals (J (i + 1)) own (news.map (·.1)) { s with heap := hh', toks := tk' } s₃ → LoopStepU h₀ env.locals [s.heap.objs.size] own (J' (i + 1)) { s with heap := hh', toks := tk' } .next s₃ := by
      rintro ⟨h', tk, m', news', nx, e, F', N', hn, ho, ha, hm⟩
      refine ⟨rfl, h', tk, m', (ax, lo) :: nx, e, F', fun p hp => ?_, fun p hp hq => ?_, nx, rfl, ha, hm⟩
      · rcases List.mem_append.mp hp with hp | hp
        · exact N' p (ho p hp)
        · rcases List.mem_cons.mp hp with rfl | hp
          · exact N' _ (ho _ hlo)
          · exact N' p (hn p hp)
      · rcases List.mem_cons.mp hp with rfl | hp
        · exact hoff _ (.head _) hq
        · have h1 : p.1 ∈ nx.map (·.1) := List.mem_map.mpr ⟨p, hp, rfl⟩
          rw [ha, ← hadr] at h1
          obtain ⟨q, hq1, hq2⟩ := List.mem_map.mp h1
          exact hoff q (.tail _ hq1) (by rw [hq2]; exact hq)
    cases f with
    | ret v => exact .ret p
    | brk => exact .brk p
    | next => exact .next (fin p)
    | cont => exact .cont (fin p)
  · rintro h' tk m' news' F' N' _ ⟨n1, rfl, _, hJ⟩
    exact done m' n1 h' tk hJ F' N'
end

/-- the frame's map, where the names of ks are forgotten -/
noncomputable abbrev forget (ks : List Str) (u m₀ : Str → Option Value) : Str → Option Value := fun z => if ks.contains z = true then u z else m₀ z
theorem forget1 {ks : List Str} {m₀ m₁ : Str → Option Value} {y : Str} {v : Value} (h : m₁ y = some v) (hs : ∀ z, ks.contains z = false → z ≠ y → m₁ z = m₀ z) :
    m₁ = up y v (forget ks m₁ m₀) := by
  funext z
  show m₁ z = if z = y then some v else forget ks m₁ m₀ z
  by_cases h1 : z = y
  · subst h1; rw [if_pos rfl]; exact h
  · rw [if_neg h1]
    unfold forget
    by_cases h2 : ks.contains z = true
    · rw [if_pos h2]
    · rw [if_neg h2]; exact hs z (Bool.eq_false_iff.mpr h2) h1
theorem forget0 {ks : List Str} {m₀ m₁ : Str → Option Value} (hs : ∀ z, ks.contains z = false → m₁ z = m₀ z) : m₁ = forget ks m₁ m₀ := by
  funext z
  unfold forget
  by_cases h2 : ks.contains z = true
  · rw [if_pos h2]
  · rw [if_neg h2]; exact hs z (Bool.eq_false_iff.mpr h2)

theorem inv_end1 {h₀ h' : Heap} {L P : Addr} {J : (Str → Option Value) → List (Addr × Obj) → Prop} {own news' : List (Addr × Obj)} {s₁ : Shared} {tk : Nat} {m' : Str → Option Value} {o : Obj}
    (F : Fr h₀ L h' m') (N : News h₀ L h' news') (hm : (P, o) ∈ news') (ho : ∀ p ∈ own, p ∈ news') (hj : J m' [(P, o)]) : InvEndN h₀ L J own [P] s₁ { s₁ with heap := h', toks := tk } :=
  InvEndN.intro F N hj rfl (fun p hp => by rw [List.mem_singleton.mp hp]; exact hm) ho
theorem inv_end0 {h₀ h' : Heap} {L : Addr} {J : (Str → Option Value) → List (Addr × Obj) → Prop} {own news' : List (Addr × Obj)} {s₁ : Shared} {tk : Nat} {m' : Str → Option Value}
    (F : Fr h₀ L h' m') (N : News h₀ L h' news') (ho : ∀ p ∈ own, p ∈ news') (hj : J m' []) : InvEndN h₀ L J own [] s₁ { s₁ with heap := h', toks := tk } :=
  InvEndN.intro F N hj rfl (fun p hp => nomatch hp) ho
theorem addr1 {h₀ h : Heap} {L a : Addr} {x : Obj} {r : List (Addr × Obj)} {C : Prop} (_N : News h₀ L h ((a, x) :: r)) (k : ∀ a', a' = a → C) : C := k a rfl
theorem addr2 {h₀ h : Heap} {L a b : Addr} {x y : Obj} {r : List (Addr × Obj)} {C : Prop} (_N : News h₀ L h ((a, x) :: (b, y) :: r)) (k : ∀ a' b', a' = a → b' = b → C) : C := k a b rfl rfl
theorem addr3 {h₀ h : Heap} {L a b c : Addr} {x y z : Obj} {r : List (Addr × Obj)} {C : Prop} (_N : News h₀ L h ((a, x) :: (b, y) :: (c, z) :: r)) (k : ∀ a' b' c', a' = a → b' = b → c' = c → C) : C := k a b c rfl rfl rfl
theorem addr4 {h₀ h : Heap} {L a b c d : Addr} {x y z u : Obj} {r : List (Addr × Obj)} {C : Prop} (_N : News h₀ L h ((a, x) :: (b, y) :: (c, z) :: (d, u) :: r)) (k : ∀ a' b' c' d', a' = a → b' = b → c' = c → d' = d → C) : C := k a b c d rfl rfl rfl rfl
theorem ex_int {f : Option Value} {x y : Int} {t : Tok} (h : f = some (.int x t)) (e : x = y) : ∃ t, f = some (.int y t) := ⟨t, e ▸ h⟩

theorem same_up {ks : List Str} {x : Str} {v : Value} {m m₀ : Str → Option Value} (hx : ks.contains x = true) (h : ∀ z, ks.contains z = false → m z = m₀ z) : ∀ z, ks.contains z = false → up x v m z = m₀ z := fun z hz => by
  show (if z = x then some v else m z) = m₀ z
  rw [if_neg (fun e => by rw [e, hx] at hz; cases hz)]
  exact h z hz
theorem same_upN {ks : List Str} {x y : Str} {v : Value} {m m₀ : Str → Option Value} (hx : ks.contains x = true) (h : ∀ z, ks.contains z = false → z ≠ y → m z = m₀ z) : ∀ z, ks.contains z = false → z ≠ y → up x v m z = m₀ z := fun z hz hy => by
  show (if z = x then some v else m z) = m₀ z
  rw [if_neg (fun e => by rw [e, hx] at hz; cases hz)]
  exact h z hz hy
theorem same_upY {ks : List Str} {y : Str} {v : Value} {m m₀ : Str → Option Value} (h : ∀ z, ks.contains z = false → z ≠ y → m z = m₀ z) : ∀ z, ks.contains z = false → z ≠ y → up y v m z = m₀ z := fun z hz hy => by
  show (if z = y then some v else m z) = m₀ z
  rw [if_neg hy]
  exact h z hz hy
theorem same_fg {ks : List Str} {u m₀ : Str → Option Value} : ∀ z, ks.contains z = false → forget ks u m₀ z = m₀ z := fun z hz => by
  show (if ks.contains z = true then u z else m₀ z) = m₀ z
  rw [if_neg (by rw [hz]; exact Bool.noConfusion)]
theorem same_fgN {ks : List Str} {y : Str} {u m₀ : Str → Option Value} : ∀ z, ks.contains z = false → z ≠ y → forget ks u m₀ z = m₀ z := fun z hz _ => same_fg z hz
end PartLp
section PartInx
open PySem PySem.W PySem.Calls PySem.Spec PyProof.Rows

/-- as before, but the objects of X may be turned -/
noncomputable def ExtX (X : List Addr) (h h' : Heap) : Prop := ∀ b o, b ∉ X → h.get? b = some o → h'.get? b = some o
noncomputable def RetX (X : List Addr) (s : Shared) (P : Value → Heap → Prop) (r : Result) (s' : Shared) : Prop :=
  match r with
  | .ok (.ret v) => ∃ h' tk, s' = { s with heap := h', toks := tk } ∧ ExtX X s.heap h' ∧ P v h'
  | _ => False

theorem retX {X : List Addr} {s : Shared} {P : Value → Heap → Prop} {v : Value} {h' g : Heap} {tk : Nat} {L : Addr} {m : Str → Option Value} (hg : ExtX X s.heap g) (F : Fr g L h' m) (p : P v h') :
    RetX X s P (.ok (.ret v)) { s with heap := h', toks := tk } := ⟨h', tk, rfl, fun b o hb e => F.keep b o (hg b o hb e), p⟩

section
variable {w : World} {A₀ : Around} {s : Shared} {base h₀ : Heap} {outer : List Env} {L : Addr} {m mg mb : Str → Option Value} {K : Frag} {p : Program} {loose : List Str} {mean : ExcName → Option Value}
  {P : Value → Heap → Prop} {name qual : Str} {params : Arguments} {body : List Stmt} {scope : Scope} {dV kV doc pm cdv ct oc : Value} {an od : Option Addr} {osl : Array (Option Value)} {f : Addr} {args : Args} {binds : List (Str × Value)}
  {dp un : Nat} {gd : Option (List Code)} {cn : Str} {cs : Scope} {a : Addr} {ccd : Value} {cl : List (Str × Addr)} {prog : Program} {news : List (Addr × Obj)}

theorem enterX (B : Below A₀ base outer h₀) (F : Fr h₀ L s.heap m) (X₀ : K.In h₀) (T : Top p loose mean mg mb h₀) (N : News h₀ L s.heap news) (hke : cs.kind = .function) (hroom : dp < recursionLimit)
    (ho : K.lookup f = some ⟨oc, od, .func (fnOf name qual params body scope dV kV doc pm an cdv ct), osl⟩) (hcd : codeIn K cdv qual = true)
    (hbind : BindsTo s (fnOf name qual params body scope dV kV doc pm an cdv ct) args binds) (hloc : ∀ y ∈ binds, scope.names.lookup y.1 = some .local)
    (h : ∀ g L' h₁ tk, ExtX (news.map (·.1)) s.heap g → Ext h₀ g → Fr g L' h₁ (fun y => binds.reverse.lookup y) → News g L' h₁ news →
      Below (ktrTop dp un gd cn cs L a ccd cl outer) base (envX cn cs L a ccd cl :: outer) g → K.In g → Top p loose mean mg mb g → (∀ p ∈ news, p.1 < L') →
      wpAny (model prog w) ((ktrTop dp un gd cn cs L a ccd cl outer).deeper (envOf qual scope L' f cdv)) (execs body (envOf qual scope L' f cdv))
        (fun fl s' => RetX (news.map (·.1)) s P (.ok (.ret (match fl with | .ret v => v | _ => .none))) s') (fun _ _ => False)
        { s with heap := h₁, toks := tk })
    (hco : scope.isCoroutine = false) (hgen : scope.isGenerator = false) (hk : scope.kind = .function)
    (hcell : ∀ x ∈ scope.names, x.2 ≠ .cell) : codeAny (model prog w) (ktrTop dp un gd cn cs L a ccd cl outer) (.call (.ref f) args) (RetX (news.map (·.1)) s P) s := by
  obtain ⟨F₁, B₁, st, _⟩ := groundX (R := RetX (news.map (·.1)) s P) (A := ktrTop dp un gd cn cs L a ccd cl outer) (env := envX cn cs L a ccd cl) B F N rfl rfl hke
  refine codeAny_call_def (fd := fnOf name qual params body scope dV kV doc pm an cdv ct) (body := body) (binds := binds) hroom ((X₀.keeps F.keep) _ _ ho) rfl (T.nolimit.keeps F.keep) (codeRec_of (X₀.keeps F.keep) hcd) rfl hbind hcell hloc (fun h₁ hns hk₁ => ?_) hco hgen hk
  exact wpAny_mono (h _ s.heap.objs.size h₁ _ (fun b o hb e => hideAll_get _ e hb) st ⟨hns, fun b o e => hk₁ b o (of_hideAll _ e), Nat.le_of_eq (hideAll_size _ _)⟩
    (fun p hp => ⟨hk₁ _ _ (N p hp).1, Nat.ne_of_lt (Heap.lt_size (N p hp).1), hideAll_none _ (List.mem_map_of_mem hp)⟩) B₁ (X₀.keeps st) (T.keeps st) (fun p hp => Heap.lt_size (N p hp).1)) (fun fl s' hl => hl) fun _ _ y => y.elim

theorem enterXC (B : Below A₀ base outer h₀) (F : Fr h₀ L s.heap m) (X₀ : K.In h₀) (T : Top p loose mean mg mb h₀) (N : News h₀ L s.heap news) (hke : cs.kind = .function) (hroom : dp < recursionLimit)
    (ho : K.lookup f = some ⟨oc, od, .func (fnOf name qual params body scope dV kV doc pm an cdv ct), osl⟩) (hcd : codeIn K cdv qual = true)
    (hbind : BindsTo s (fnOf name qual params body scope dV kV doc pm an cdv ct) args binds) (hkind : (binds.all fun y => scope.names.lookup y.1 == some .local || scope.names.lookup y.1 == some .cell) = true)
    (hnd : ((cellsFrom 0 scope.names []).map (·.1)).Nodup)
    (h : ∀ g L' h₁ tk cells, ExtX (news.map (·.1)) s.heap g → Ext h₀ g → Fr g L' h₁ (bindL (envOfC qual scope L' f cdv).kindOf binds fun _ => none) → News g L' h₁ (cells ++ news) →
      CellsAre (bindC (envOfC qual scope L' f cdv).kindOf binds fun _ => none) (cellsFrom (L' + 1) scope.names []) cells →
      Below (ktrTop dp un gd cn cs L a ccd cl outer) base (envX cn cs L a ccd cl :: outer) g → K.In g → Top p loose mean mg mb g → (∀ p ∈ news, p.1 < L') →
      wpAny (model prog w) ((ktrTop dp un gd cn cs L a ccd cl outer).deeper (envOfC qual scope L' f cdv)) (execs body (envOfC qual scope L' f cdv))
        (fun fl s' => RetX (news.map (·.1)) s P (.ok (.ret (match fl with | .ret v => v | _ => .none))) s') (fun _ _ => False)
        { s with heap := h₁, toks := tk })
    (hco : scope.isCoroutine = false) (hgen : scope.isGenerator = false) (hk : scope.kind = .function) : codeAny (model prog w) (ktrTop dp un gd cn cs L a ccd cl outer) (.call (.ref f) args) (RetX (news.map (·.1)) s P) s := by
  obtain ⟨F₁, B₁, st, _⟩ := groundX (R := RetX (news.map (·.1)) s P) (A := ktrTop dp un gd cn cs L a ccd cl outer) (env := envX cn cs L a ccd cl) B F N rfl rfl hke
  refine codeAny_call_function hroom ((X₀.keeps F.keep) _ _ ho) rfl hco hgen rfl (codeRec_of (X₀.keeps F.keep) hcd) (hbind _ _ _ _ ?_)
  refine wpAny_newFunctionEnv_cells hk (kindsX hkind _) fun env' he s' x => ?_
  subst he
  refine ⟨(T.nolimit.keeps F.keep).keeps x.toInCall.keep, codeAny_func ?_⟩
  obtain ⟨h₁, tk, rfl, _⟩ := x.done
  have hk₁ := x.toInCall.keep
  obtain ⟨cells, NC, Y⟩ := Cl.news (h₀ := s.heap) (Nat.le_refl _) fun n c hm => ⟨x.cell n c (lookup_of_mem_nodup (cellsFrom_names scope.names 0 (s.heap.objs.size + 1) [] [] rfl ▸ hnd) hm), x.above n c hm⟩
  refine wpAny_mono (h _ s.heap.objs.size h₁ tk cells (fun b o hb e => hideAll_get _ e hb) st ⟨x.toInCall.ns, fun b o e => hk₁ b o (of_hideAll _ e), Nat.le_of_eq (hideAll_size _ _)⟩ (fun p hp => ?_) Y B₁ (X₀.keeps st) (T.keeps st) (fun p hp => Heap.lt_size (N p hp).1)) (fun fl s' hl => hl) fun _ _ y => y.elim
  rcases List.mem_append.mp hp with hp | hp
  · refine ⟨(NC p hp).1, (NC p hp).2.1, ?_⟩
    cases q : (hideAll s.heap (news.map (·.1))).get? p.1 with
    | none => rfl
    | some o => have := of_hideAll _ q; rw [(NC p hp).2.2] at this; cases this
  · exact ⟨hk₁ _ _ (N p hp).1, Nat.ne_of_lt (Heap.lt_size (N p hp).1), hideAll_none _ (List.mem_map_of_mem hp)⟩

/-- a closure that stands in the heap -/
theorem enterXF (B : Below A₀ base outer h₀) (F : Fr h₀ L s.heap m) (X₀ : K.In h₀) (T : Top p loose mean mg mb h₀) (N : News h₀ L s.heap news) (hke : cs.kind = .function) (hroom : dp < recursionLimit) {fo : Obj} {fcl : List (Str × Addr)}
    (ho : s.heap.get? f = some fo) (hd : fo.data = .func (fnX name qual params body scope fcl dV kV doc pm an cdv ct)) (hcd : s.heap.CodeRec cdv qual)
    (hbind : BindsTo s (fnX name qual params body scope fcl dV kV doc pm an cdv ct) args binds) (hloc : ∀ y ∈ binds, scope.names.lookup y.1 = some .local)
    (h : ∀ g L' h₁ tk, ExtX (news.map (·.1)) s.heap g → Ext h₀ g → Fr g L' h₁ (fun y => binds.reverse.lookup y) → News g L' h₁ news →
      Below (ktrTop dp un gd cn cs L a ccd cl outer) base (envX cn cs L a ccd cl :: outer) g → K.In g → Top p loose mean mg mb g → (∀ p ∈ news, p.1 < L') →
      wpAny (model prog w) ((ktrTop dp un gd cn cs L a ccd cl outer).deeper (envX qual scope L' f cdv fcl)) (execs body (envX qual scope L' f cdv fcl))
        (fun fl s' => RetX (news.map (·.1)) s P (.ok (.ret (match fl with | .ret v => v | _ => .none))) s') (fun _ _ => False)
        { s with heap := h₁, toks := tk })
    (hco : scope.isCoroutine = false) (hgen : scope.isGenerator = false) (hk : scope.kind = .function)
    (hcell : ∀ x ∈ scope.names, x.2 ≠ .cell) : codeAny (model prog w) (ktrTop dp un gd cn cs L a ccd cl outer) (.call (.ref f) args) (RetX (news.map (·.1)) s P) s := by
  obtain ⟨F₁, B₁, st, _⟩ := groundX (R := RetX (news.map (·.1)) s P) (A := ktrTop dp un gd cn cs L a ccd cl outer) (env := envX cn cs L a ccd cl) B F N rfl rfl hke
  refine codeAny_call_def (fd := fnX name qual params body scope fcl dV kV doc pm an cdv ct) (body := body) (binds := binds) hroom ho hd (T.nolimit.keeps F.keep) hcd rfl hbind hcell hloc (fun h₁ hns hk₁ => ?_) hco hgen hk
  exact wpAny_mono (h _ s.heap.objs.size h₁ _ (fun b o hb e => hideAll_get _ e hb) st ⟨hns, fun b o e => hk₁ b o (of_hideAll _ e), Nat.le_of_eq (hideAll_size _ _)⟩
    (fun p hp => ⟨hk₁ _ _ (N p hp).1, Nat.ne_of_lt (Heap.lt_size (N p hp).1), hideAll_none _ (List.mem_map_of_mem hp)⟩) B₁ (X₀.keeps st) (T.keeps st) (fun p hp => Heap.lt_size (N p hp).1)) (fun fl s' hl => hl) fun _ _ y => y.elim
end

section
variable {prog : Program} {w : World} {A : Around} {E : Value → Shared → Prop} {s : Shared} {h₀ : Heap} {L : Addr} {m : Str → Option Value} {news rest : List (Addr × Obj)} {P : Value → Heap → Prop} {Q : Value → Shared → Prop} {f : Value} {args : List Value} {X : List Addr}

theorem use_specX (F : Fr h₀ L s.heap m) (N : News h₀ L s.heap news) (hX : ∀ a ∈ X, a ≠ L ∧ h₀.get? a = none) (hr : ∀ p ∈ rest, p ∈ news ∧ p.1 ∉ X) (h : codeAny (model prog w) A (.call f ⟨args, []⟩) (RetX X s P) s)
    (k : ∀ v h' tk, Fr h₀ L h' m → News h₀ L h' rest → ExtX X s.heap h' → P v h' → Q v { s with heap := h', toks := tk }) : wpAny (model prog w) A (call f args) Q E s := by
  refine wpAny_call (codeAny_mono h ?_)
  intro r s' hr'
  match r, hr' with
  | .ok (.ret v), ⟨h', tk, e, x, p⟩ =>
    subst e
    obtain ⟨oL, es, ep, hL, hLd, hLk, hLf⟩ := F.ns
    refine k v h' tk ⟨⟨oL, es, ep, x L oL (fun q => (hX L q).1 rfl) hL, hLd, hLk, hLf⟩, fun b o q => x b o (fun hb => ?_) (F.keep b o q), F.above⟩ (fun p hp => ⟨x _ _ (hr p hp).2 (N p (hr p hp).1).1, (N p (hr p hp).1).2⟩) x p
    rw [(hX b hb).2] at q; cases q
theorem news_cons {h : Heap} {a : Addr} {o : Obj} (N : News h₀ L h news) (hg : h.get? a = some o) (hL : a ≠ L) (h0 : h₀.get? a = none) : News h₀ L h ((a, o) :: news) := fun p hp => by
  rcases List.mem_cons.mp hp with rfl | hp
  · exact ⟨hg, hL, h0⟩
  · exact N p hp
theorem fresh_back {X : List Addr} {h g : Heap} {D : Addr} (hg : ExtX X h g) (hD : D ∉ X) (e : g.get? D = none) : h.get? D = none := by
  cases q : h.get? D with
  | none => rfl
  | some o => rw [hg D o hD q] at e; cases e
theorem fresh_chain {h g h' : Heap} {D : Addr} (hg : ExtX (news.map (·.1)) h g) (F : Fr g L h' m) (N : News g L h' news) (e : h'.get? D = none) : h.get? D = none := by
  cases q : h.get? D with
  | none => rfl
  | some o =>
    by_cases hD : D ∈ news.map (·.1)
    · obtain ⟨p, hp, rfl⟩ := List.mem_map.mp hD
      rw [(N p hp).1] at e; cases e
    · rw [F.keep _ _ (hg D o hD q)] at e; cases e
theorem news_turned {h h' : Heap} {led' : List (Addr × Obj)} (N : News h₀ L h news) (he : led'.map (·.1) = news.map (·.1)) (hg : ∀ p ∈ led', h'.get? p.1 = some p.2) : News h₀ L h' led' := fun p hp => by
  have h1 : p.1 ∈ news.map (·.1) := he ▸ List.mem_map_of_mem hp
  obtain ⟨q, hq, e⟩ := List.mem_map.mp h1
  exact ⟨hg p hp, e ▸ (N q hq).2.1, e ▸ (N q hq).2.2⟩
theorem apart_of {h : Heap} (N : News h₀ L h news) : ∀ a ∈ news.map (·.1), a ≠ L ∧ h₀.get? a = none := fun a ha => by
  obtain ⟨q, hq, e⟩ := List.mem_map.mp ha
  exact ⟨e ▸ (N q hq).2.1, e ▸ (N q hq).2.2⟩
/-- a fresh object stands apart from the frame -/
theorem fresh_of {h : Heap} {a : Addr} (F : Fr h₀ L h m) (e : h.get? a = none) : a ≠ L ∧ h₀.get? a = none := by
  refine ⟨fun q => ?_, ?_⟩
  · obtain ⟨oL, _, _, hL, _⟩ := F.ns
    rw [q, hL] at e; cases e
  · cases q : h₀.get? a with
    | none => rfl
    | some o => rw [F.keep _ _ q] at e; cases e
end
end PartInx
section PartPl
open PySem PySem.W PyProof.Rows
theorem xor_low (x s : Nat) : x ^^^ ((x / 2 ^ s) * 2 ^ s) = x % 2 ^ s := by
  apply Nat.eq_of_testBit_eq
  intro i
  rw [Nat.testBit_xor, Nat.testBit_mod_two_pow, Nat.testBit_mul_two_pow, Nat.testBit_div_two_pow]
  by_cases h : s ≤ i
  · have h2 : ¬ i < s := by omega
    simp [h, h2, Nat.sub_add_cancel h]
  · have h2 : i < s := by omega
    simp [h, h2]
theorem or_xor_and : ∀ (k x y : Nat), x < k → (x ||| y) = (x ^^^ y) + (x &&& y)
  | 0, _, _, h => absurd h (Nat.not_lt_zero _)
  | k + 1, x, y, h => by
    have h1 := Nat.div_add_mod (x ||| y) 2
    have h2 := Nat.div_add_mod (x ^^^ y) 2
    have h3 := Nat.div_add_mod (x &&& y) 2
    have m1 : (x ||| y) % 2 = (x ^^^ y) % 2 + (x &&& y) % 2 := by
      have a1 := Nat.or_mod_two_pow (a := x) (b := y) (n := 1)
      have a2 := Nat.xor_mod_two_pow (a := x) (b := y) (n := 1)
      have a3 := Nat.and_mod_two_pow (a := x) (b := y) (n := 1)
      rw [Nat.pow_one] at a1 a2 a3
      rw [a1, a2, a3]
      rcases Nat.mod_two_eq_zero_or_one x with e | e <;> rcases Nat.mod_two_eq_zero_or_one y with e' | e' <;> rw [e, e'] <;> rfl
    by_cases hx : x = 0
    · subst hx; simp
    · have ih := or_xor_and k (x / 2) (y / 2) (by omega)
      rw [← Nat.or_div_two, ← Nat.xor_div_two, ← Nat.and_div_two] at ih
      omega
theorem bitAnd_nat (x y : Nat) : Builtin.bitAnd (x : Int) (y : Int) = ((x &&& y : Nat) : Int) := by
  rw [bitAnd_pp (by omega) (by omega)]; simp
theorem bitXor_nat (x y : Nat) : Builtin.bitXor (x : Int) (y : Int) = ((x ^^^ y : Nat) : Int) := by
  rw [bitXor_and, bitAnd_nat]
  have h := or_xor_and (x + 1) x y (by omega)
  have h2 := nat_or_add_and x y
  omega
theorem bitOr_nat (x y : Nat) : Builtin.bitOr (x : Int) (y : Int) = ((x ||| y : Nat) : Int) := by
  rw [bitOr_and, bitAnd_nat]
  have h2 := nat_or_add_and x y
  omega
theorem fdiv_nat (x y : Nat) (hy : 0 < y) : (x : Int).fdiv (y : Int) = ((x / y : Nat) : Int) := by
  rw [Int.fdiv_eq_ediv_of_nonneg _ (by omega)]; rfl
theorem fdiv_pow (x s : Nat) : (x : Int).fdiv (2 ^ s) = ((x / 2 ^ s : Nat) : Int) := by
  have h := fdiv_nat x (2 ^ s) (Nat.two_pow_pos s)
  rw [← h]
  congr 1

/-- the digits of x by 2 ^ n, k of them, the last one whole -/
noncomputable def digs (n : Nat) : Nat → Nat → List Int
  | 0, _ => []
  | 1, x => [(x : Int)]
  | k + 2, x => ((x % 2 ^ n : Nat) : Int) :: digs n (k + 1) (x / 2 ^ n)
theorem digs_succ (n k x : Nat) (hk : 1 ≤ k) : digs n (k + 1) x = ((x % 2 ^ n : Nat) : Int) :: digs n k (x / 2 ^ n) := by
  cases k with
  | zero => omega
  | succ k => rfl
theorem digs_length (n : Nat) : ∀ k x, (digs n k x).length = k
  | 0, _ => rfl
  | 1, _ => rfl
  | k + 2, x => by rw [digs_succ n (k + 1) x (by omega), List.length_cons, digs_length n (k + 1)]
theorem digs_split (n k : Nat) (hk : 1 ≤ k) : ∀ j x, 1 ≤ j → digs n j (x % 2 ^ (j * n)) ++ digs n k (x / 2 ^ (j * n)) = digs n (j + k) x
  | 0, _, h => by omega
  | 1, x, _ => by
    rw [Nat.add_comm 1 k, digs_succ n k x hk, Nat.one_mul]
    rfl
  | j + 2, x, _ => by
    have ih := digs_split n k hk (j + 1) (x / 2 ^ n) (by omega)
    have e1 : j + 2 + k = (j + 1 + k) + 1 := by omega
    have e2 : 2 ^ ((j + 2) * n) = 2 ^ n * 2 ^ ((j + 1) * n) := by rw [← Nat.pow_add]; congr 1; rw [show j + 2 = (j + 1) + 1 from rfl, Nat.succ_mul]; omega
    rw [e1, digs_succ n (j + 1 + k) x (by omega), digs_succ n (j + 1) _ (by omega), e2, Nat.mod_mul_right_div_self, Nat.mod_mul_right_mod, ← Nat.div_div_eq_div_mul]
    rw [List.cons_append, ih]
theorem digs_place {ds : List Int} {n lo mid hi x j k : Nat} (h1 : lo + j = mid) (h2 : mid + k = hi) (hj : 1 ≤ j) (hk : 1 ≤ k) (hh : hi ≤ ds.length) :
    (ds.take lo ++ digs n j (x % 2 ^ (j * n)) ++ ds.drop mid).take mid ++ digs n k (x / 2 ^ (j * n)) ++ (ds.take lo ++ digs n j (x % 2 ^ (j * n)) ++ ds.drop mid).drop hi = ds.take lo ++ digs n (j + k) x ++ ds.drop hi := by
  have hl : (ds.take lo ++ digs n j (x % 2 ^ (j * n))).length = mid := by rw [List.length_append, List.length_take, digs_length]; omega
  rw [List.take_append_of_le_length (by omega), List.take_of_length_le (by omega), List.drop_append, List.drop_of_length_le (by omega), hl, List.drop_drop, List.nil_append, ← digs_split n k hk j x hj]
  have e : mid + (hi - mid) = hi := by omega
  rw [e]
  simp only [List.append_assoc]
theorem set_place {ds : List Int} {lo : Nat} {x : Int} (h : lo < ds.length) : ds.set lo x = ds.take lo ++ [x] ++ ds.drop (lo + 1) := by
  rw [List.set_eq_take_append_cons_drop, if_pos h]; simp
theorem low_bits (x s : Nat) : Builtin.bitXor (x : Int) ((x : Int).fdiv (2 ^ s) * 2 ^ s) = ((x % 2 ^ s : Nat) : Int) := by
  rw [fdiv_pow]
  have e : (((x / 2 ^ s : Nat) : Int) * 2 ^ s) = ((x / 2 ^ s * 2 ^ s : Nat) : Int) := by rw [Int.natCast_mul, Int.natCast_pow]; rfl
  rw [e, bitXor_nat, xor_low]
end PartPl
section PartLr
open PySem PySem.W PySem.Calls PySem.Spec PyProof.Rows PyProof.V

section
variable {prog : Program} {w : World} {A : Around} {E : Value → Shared → Prop} {s : Shared} {env : Env} {h₀ : Heap} {target : Expr} {body : List Stmt} {Q : Flow → Shared → Prop}
/-- a loop over reversed(l), l a list of the ledger, by an invariant -/
theorem iter_turnsR {I ax : Addr} {lo : Obj} {vs : List Value} {n : Nat} {m₀ : Str → Option Value} {news : List (Addr × Obj)} (J : Nat → (Str → Option Value) → List (Addr × Obj) → Prop)
    (hh : A.handled = none) (F : Fr h₀ env.locals s.heap m₀) (N : News h₀ env.locals s.heap ((I, revObj ax ((vs.length : Int) - 1)) :: (ax, lo) :: news)) (hc : lo.cls = .type "list") (hd : lo.data = .seq vs.toArray n)
    (hax : ∀ p ∈ news, p.1 ≠ ax) (hIx : ∀ p ∈ news, p.1 ≠ I) (hIa : ax ≠ I) (hj : J 0 m₀ news)
    (turn : ∀ i v m₁ news₁ h tk own, vs[vs.length - 1 - i]? = some v → i < vs.length → news₁.map (·.1) = news.map (·.1) → OwnOff own (news.map (·.1)) → J i m₁ news₁ → Fr h₀ env.locals h m₁ → News h₀ env.locals h ((ax, lo) :: (news₁ ++ own)) →
      wpAny (model prog w) A (assign target env v) (fun _ s₂ => wpAny (model prog w) A (execs body env) (InvPostN h₀ env.locals (J (i + 1)) own (news.map (·.1)) { s with heap := h, toks := tk } Q) E s₂) E { s with heap := h, toks := tk })
    (done : ∀ m₁ news₁ h tk, J vs.length m₁ news₁ → Fr h₀ env.locals h m₁ → News h₀ env.locals h ((ax, lo) :: news₁) → Q .next { s with heap := h, toks := tk }) :
    wpAny (model prog w) A (pyIter (.ref I)) (fun it s₂ => TurnsAt prog w A h₀ env target body Q E it s₂) E s := by
  have hI0 := N _ (.head _)
  have hax0 := N _ (.tail _ (.head _))
  have hls : s.heap.IsList ax vs.toArray := ⟨lo, hax0.1, hc, n, hd⟩
  have hit : s.heap.IsRevIter I ax ((vs.length : Int) - 1) := ⟨_, hI0.1, rfl, rfl⟩
  refine wpAny_pyIter_revIter hit ?_
  have W := KTurns.ofWalks (target := target) (Walks.listRev (prog := prog) (w := w) hh I ax hIa vs.toArray) (fun i v s Q E st q => (by
    obtain ⟨o, ho, hc, hd⟩ := st.2.1
    unfold letOwnedTupleGo
    cases target <;> first
      | exact wpAny_pure q
      | (cases v <;> first
          | exact wpAny_pure q
          | (refine wpAny_bind (wpAny_load ho ?_)
             rw [hc, hd]
             exact wpAny_pure q))))
  have hlen : vs.toArray.size = vs.length := by simp
  rw [hlen] at W
  let J' : Nat → (Str → Option Value) → List (Addr × Obj) → Prop := fun i m₁ news₁ => ∃ n1, news₁ = (ax, lo) :: n1 ∧ n1.map (·.1) = news.map (·.1) ∧ J i m₁ n1
  refine ⟨_, _, _, vs.length, _, _, _, m₀, (ax, lo) :: news, J', rfl, W, ?_, ?_, ?_, ⟨Nat.zero_le _, ?_, hls⟩, F, (fun p hp => N p (.tail _ hp)), ⟨news, rfl, rfl, hj⟩, ?_, ?_⟩
  · intro hm
    rcases List.mem_cons.mp hm with e | hm
    · exact hI0.2.1 e.symm
    · exact hax0.2.1 (List.mem_singleton.mp hm).symm
  · intro b hb
    rw [List.mem_singleton.mp hb]
    exact hI0.2.2
  · intro p hp hI
    have hI' := List.mem_singleton.mp hI
    rcases List.mem_cons.mp hp with rfl | hp
    · exact hIa hI'
    · exact hIx p hp hI'
  · have e : (vs.length : Int) - 1 - ((0 : Nat) : Int) = (vs.length : Int) - 1 := by omega
    rw [e]
    exact hit
  · rintro i v m₁ news₁ hh' tk' own hin hP ⟨n1, rfl, hadr, hJ⟩ hoff hown hget hall _ F₁ N₁
    have hsep : OwnOff own (news.map (·.1)) := by
      intro p hp b hb e
      obtain ⟨q, hq, rfl⟩ := List.mem_map.mp hb
      rcases List.mem_cons.mp (hown p hp) with h1 | h1
      · exact hIx q hq (e.symm.trans h1)
      · exact hax q hq (e.symm.trans (List.mem_singleton.mp h1))
    have hv : vs[vs.length - 1 - i]? = some v := by simpa using hP
    have hlo : (ax, lo) ∈ own := by
      have h1 := N₁ (ax, lo) (List.mem_append_right _ (.head _))
      exact hall ax (by simp) h1.2.2 lo h1.1
    have N₂ : News h₀ env.locals hh' ((ax, lo) :: (n1 ++ own)) := fun p hp => by
      rcases List.mem_cons.mp hp with rfl | hp
      · exact N₁ _ (List.mem_append_right _ (.head _))
      · rcases List.mem_append.mp hp with hp | hp
        · exact N₁ _ (List.mem_append_right _ (.tail _ hp))
        · exact N₁ _ (List.mem_append_left _ hp)
    refine wpAny_mono (turn i v m₁ n1 hh' tk' own hv hin hadr hsep hJ F₁ N₂) (fun _ s₂ p₂ => wpAny_mono p₂ (fun f s₃ p => ?_) fun _ _ e => e) fun _ _ e => e
    have fin : InvEndN h₀ env.locals (J (i + 1)) own (news.map (·.1)) { s with heap := hh', toks := tk' } s₃ → LoopStepU h₀ env.locals [I] own (J' (i + 1)) { s with heap := hh', toks := tk' } .next s₃ := by
      rintro ⟨h', tk, m', news', nx, e, F', N', hn, ho, ha, hm⟩
      refine ⟨rfl, h', tk, m', (ax, lo) :: nx, e, F', fun p hp => ?_, fun p hp hq => ?_, nx, rfl, ha, hm⟩
      · rcases List.mem_append.mp hp with hp | hp
        · exact N' p (ho p hp)
        · rcases List.mem_cons.mp hp with rfl | hp
          · exact N' _ (ho _ hlo)
          · exact N' p (hn p hp)
      · rcases List.mem_cons.mp hp with rfl | hp
        · exact hoff _ (.head _) hq
        · have h1 : p.1 ∈ nx.map (·.1) := List.mem_map.mpr ⟨p, hp, rfl⟩
          rw [ha, ← hadr] at h1
          obtain ⟨q, hq1, hq2⟩ := List.mem_map.mp h1
          exact hoff q (.tail _ hq1) (by rw [hq2]; exact hq)
    cases f with
    | ret v => exact .ret p
    | brk => exact .brk p
    | next => exact .next (fin p)
    | cont => exact .cont (fin p)
  · rintro h' tk m' news' F' N' _ ⟨n1, rfl, _, hJ⟩
    exact done m' n1 h' tk hJ F' N'
end
end PartLr
section PartRg
open PySem PySem.W PySem.Calls PySem.Spec PyProof.Rows PyProof.V

section
variable {prog : Program} {w : World} {A : Around} {E : Value → Shared → Prop} {s : Shared} {env : Env} {h₀ : Heap} {y : Str} {py : Pos} {body : List Stmt} {Q : Flow → Shared → Prop}
/-- a loop over a range whose name is a cell, by an invariant -/
theorem iter_turnsI {r : Addr} {a₀ b₀ : Int} {t₀ u₀ v₀ : Tok} {n : Nat} {m₀ : Str → Option Value} {news : List (Addr × Obj)} (J : Nat → (Str → Option Value) → List (Addr × Obj) → Prop)
    (hh : A.handled = none) (hr : IsRange s.heap r a₀ b₀ 1 t₀ u₀ v₀) (hsmall : Builtin.Range.small a₀ b₀ 1 = true) (hn : Builtin.Range.rangeSize a₀ b₀ 1 = (n : Int)) (F : Fr h₀ env.locals s.heap m₀) (N : News h₀ env.locals s.heap news) (hj : J 0 m₀ news)
    (turn : ∀ i t m₁ news₁ h tk own, i < n → news₁.map (·.1) = news.map (·.1) → OwnOff own (news.map (·.1)) → J i m₁ news₁ → Fr h₀ env.locals h m₁ → News h₀ env.locals h (news₁ ++ own) →
      wpAny (model prog w) A (assign (.Name y py) env (.int (a₀ + (i : Int)) t)) (fun _ s₂ => wpAny (model prog w) A (execs body env) (InvPostN h₀ env.locals (J (i + 1)) own (news.map (·.1)) { s with heap := h, toks := tk } Q) E s₂) E { s with heap := h, toks := tk })
    (done : ∀ m₁ news₁ h tk, J n m₁ news₁ → Fr h₀ env.locals h m₁ → News h₀ env.locals h news₁ → Q .next { s with heap := h, toks := tk }) :
    wpAny (model prog w) A (pyIter (.ref r)) (fun it s₂ => TurnsAt prog w A h₀ env (.Name y py) body Q E it s₂) E s := by
  refine wpAny_pyIter_range hr hsmall ?_
  have W0 : Walks prog w A s.heap.objs.size [s.heap.objs.size] [s.heap.objs.size] n (fun i v => i < n ∧ ∃ t, v = .int (a₀ + i * 1) t)
      (fun i h => IsRangeIter h s.heap.objs.size (a₀ + (i : Nat) * 1) ((n : Int) - (i : Nat)) 1) := (Walks.range hh _ a₀ 1 n).bound
  have W := KTurns.ofWalks (target := .Name y py) W0 (fun i v s Q E st q => (by
    unfold letOwnedTupleGo
    exact wpAny_pure q))
  let J' : Nat → (Str → Option Value) → List (Addr × Obj) → Prop := fun i m₁ news₁ => news₁.map (·.1) = news.map (·.1) ∧ J i m₁ news₁
  refine ⟨_, _, _, n, _, _, _, m₀, news, J', rfl, W, ?_, ?_, ?_, (by show IsRangeIter _ _ _ _ _; rw [hn]; simpa using Heap.get?_push_size _ rfl), F.push _, (fun p hp => ⟨Heap.get?_push_of_some _ (N p hp).1, (N p hp).2⟩), ⟨rfl, hj⟩, ?_, ?_⟩
  · intro hm
    exact absurd F.ns.lt ((List.mem_singleton.mp hm) ▸ Nat.lt_irrefl _)
  · intro b hb
    rw [List.mem_singleton.mp hb]
    exact next_is_new F
  · intro p hp hI
    exact absurd (Heap.lt_size (N p hp).1) ((List.mem_singleton.mp hI) ▸ Nat.lt_irrefl _)
  · rintro i v m₁ news₁ hh' tk' own hin ⟨_, t, rfl⟩ ⟨hadr, hJ⟩ hoff hown _ _ _ F₁ N₁
    have hsep : OwnOff own (news.map (·.1)) := by
      intro p hp b hb e
      obtain ⟨q, hq, rfl⟩ := List.mem_map.mp hb
      exact absurd (Heap.lt_size (N q hq).1) (by rw [← e, List.mem_singleton.mp (hown p hp)]; exact Nat.lt_irrefl _)
    have N₂ : News h₀ env.locals hh' (news₁ ++ own) := fun p hp => N₁ p ((List.mem_append.mp hp).elim (fun h => List.mem_append.mpr (.inr h)) fun h => List.mem_append.mpr (.inl h))
    have e1 : a₀ + (i : Int) * 1 = a₀ + (i : Int) := by omega
    rw [e1]
    refine wpAny_mono (turn i t m₁ news₁ hh' tk' own hin hadr hsep hJ F₁ N₂) (fun _ s₂ p₂ => wpAny_mono p₂ (fun f s₃ p => ?_) fun _ _ e => e) fun _ _ e => e
    have fin : InvEndN h₀ env.locals (J (i + 1)) own (news.map (·.1)) { s with heap := hh', toks := tk' } s₃ → LoopStepU h₀ env.locals [s.heap.objs.size] own (J' (i + 1)) { s with heap := hh', toks := tk' } .next s₃ := by
      rintro ⟨h', tk, m', news', nx, e, F', N', hn, ho, ha, hm⟩
      refine ⟨rfl, h', tk, m', nx, e, F', fun p hp => N' p ((List.mem_append.mp hp).elim (ho p) (hn p)), fun p hp hq => ?_, ha, hm⟩
      have h1 : p.1 ∈ nx.map (·.1) := List.mem_map.mpr ⟨p, hp, rfl⟩
      rw [ha, ← hadr] at h1
      obtain ⟨q, hq1, hq2⟩ := List.mem_map.mp h1
      exact hoff q hq1 (by rw [hq2]; exact hq)
    cases f with
    | ret v => exact .ret p
    | brk => exact .brk p
    | next => exact .next (fin p)
    | cont => exact .cont (fin p)
  · rintro h' tk m' news' F' N' _ ⟨_, hJ⟩
    exact done m' news' h' tk hJ F' N'
/-- a loop over a range that changes one int by a word of its own -/
theorem range_fold {x : Str} {r : Addr} {a₀ b₀ : Int} {t₀ u₀ v₀ : Tok} {n : Nat} {m₀ : Str → Option Value} {news : List (Addr × Obj)} {c₀ : Int} {tc : Tok} (y : Str) (g : Int → Int → Int)
    (hh : A.handled = none) (hr : IsRange s.heap r a₀ b₀ 1 t₀ u₀ v₀) (hsmall : Builtin.Range.small a₀ b₀ 1 = true) (hn : Builtin.Range.rangeSize a₀ b₀ 1 = (n : Int)) (F : Fr h₀ env.locals s.heap m₀) (N : News h₀ env.locals s.heap news) (hy : m₀ y = some (.int c₀ tc))
    (turn : ∀ k t a ta h tk own, a₀ ≤ k → k < a₀ + (n : Int) → OwnOff own (news.map (·.1)) → Fr h₀ env.locals h (fun z => if z = x then some (.int k t) else if z = y then some (.int a ta) else m₀ z) → News h₀ env.locals h (news ++ own) →
      wpAny (model prog w) A (execs body env) (InvPostN h₀ env.locals (fun m' nx => nx = news ∧ KPfInt m' y (g a k) ∧ ∀ z, z ≠ x → z ≠ y → m' z = m₀ z) own (news.map (·.1)) { s with heap := h, toks := tk } Q) E { s with heap := h, toks := tk })
    (done : ∀ (u : Str → Option Value) t h tk, Fr h₀ env.locals h (fun z => if z = x then u z else if z = y then some (.int ((rangeKs a₀ n).foldl g c₀) t) else m₀ z) → News h₀ env.locals h news → Q .next { s with heap := h, toks := tk }) :
    wpAny (model prog w) A (pyIter (.ref r)) (fun it s₂ => LoopAtV prog w A h₀ env x body Q E it s₂) E s := by
  refine kpr_n1 (y := y) [] g hh hr hsmall hn F N hy (fun k t a ta u h tk own h1 h2 h3 F1 N1 => ?_) ?_
  · simp only [List.contains_nil, Bool.false_eq_true, if_false] at F1
    refine wpAny_mono (turn k t a ta h tk own h1 h2 h3 F1 N1) (fun f s₂ p => ?_) fun _ _ e => e
    have fin : ∀ {s₃ s₄ : Shared}, InvEndN h₀ env.locals (fun m' nx => nx = news ∧ KPfInt m' y (g a k) ∧ ∀ z, z ≠ x → z ≠ y → m' z = m₀ z) own (news.map (·.1)) s₃ s₄ → InvEndN h₀ env.locals (fun m' nx => nx = news ∧ KPfInt m' y (g a k) ∧ ∀ z, z ≠ x → z ≠ y → ([] : List Str).contains z = false → m' z = m₀ z) own (news.map (·.1)) s₃ s₄ := by
      rintro s₃ s₄ ⟨h', tk', m', news', nx', e', F', N', hn', ho', ha, e1, e2, e3⟩
      exact ⟨h', tk', m', news', nx', e', F', N', hn', ho', ha, e1, e2, fun z z1 z2 _ => e3 z z1 z2⟩
    cases f with
    | ret v => exact p
    | brk => exact p
    | next => exact fin p
    | cont => exact fin p
  · unfold KPfDone
    intro u t h tk F1 N1
    simp only [List.contains_nil, Bool.false_eq_true, if_false] at F1
    exact done u t h tk F1 N1
end
end PartRg
section PartS1
theorem base_S1 : True := by
  w_top off
  k_with_none
  k_with "mine:step" => ((first | (k_unfold; (try dsimp only)) | (k_end; wrow_close) | walk1 | (dsimp only; walk1) | (leave1; walk_say "STEP leave1"; try dsimp only) | fail "no step"))
  k_with "storeName" => ((k_here; k_dflt (first | (refine' storeI ?FW7 ?NW7 ?_ ?aW7 ?bW7; (case FW7 => k_asm); (case NW7 => k_asm); (case aW7 => rfl); (case bW7 => rfl); k_whole; intro hq9 tq9 tkq9 Fq9 Nq9; (try k_sweep)) | (refine' storeU ?FW7 ?NW7 ?_ ?aW7 ?bW7; (case FW7 => k_asm); (case NW7 => k_asm); (case aW7 => rfl); (case bW7 => rfl); k_whole; intro hq9 tkq9 Fq9 Nq9; (try k_sweep)))))
  k_with "mine:pj" => (((rename (_ ∧ _) => z); first | exact z.1 | exact Zs z.1 | exact Zl z.1 | exact Zg z.1 | exact z.2 | exact Zs z.2 | exact Zl z.2 | exact Zg z.2 | exact z.2.1 | exact Zs z.2.1 | exact Zl z.2.1 | exact Zg z.2.1 | exact z.2.2 | exact Zs z.2.2 | exact Zl z.2.2 | exact Zg z.2.2 | exact z.2.2.1 | exact Zs z.2.2.1 | exact Zl z.2.2.1 | exact Zg z.2.2.1 | exact z.2.2.2 | exact Zs z.2.2.2 | exact Zl z.2.2.2 | exact Zg z.2.2.2 | exact z.2.2.2.1 | exact Zs z.2.2.2.1 | exact Zl z.2.2.2.1 | exact Zg z.2.2.2.1 | exact z.2.2.2.2 | exact Zs z.2.2.2.2 | exact Zl z.2.2.2.2 | exact Zg z.2.2.2.2 | exact z.2.2.2.2.1 | exact Zs z.2.2.2.2.1 | exact Zl z.2.2.2.2.1 | exact Zg z.2.2.2.2.1 | exact z.2.2.2.2.2 | exact Zs z.2.2.2.2.2 | exact Zl z.2.2.2.2.2 | exact Zg z.2.2.2.2.2 | exact z.2.2.2.2.2.1 | exact Zs z.2.2.2.2.2.1 | exact Zl z.2.2.2.2.2.1 | exact Zg z.2.2.2.2.2.1 | exact z.2.2.2.2.2.2 | exact Zs z.2.2.2.2.2.2 | exact Zl z.2.2.2.2.2.2 | exact Zg z.2.2.2.2.2.2 | exact z.2.2.2.2.2.2.1 | exact Zs z.2.2.2.2.2.2.1 | exact Zl z.2.2.2.2.2.2.1 | exact Zg z.2.2.2.2.2.2.1 | exact z.2.2.2.2.2.2.2 | exact Zs z.2.2.2.2.2.2.2 | exact Zl z.2.2.2.2.2.2.2 | exact Zg z.2.2.2.2.2.2.2 | exact z.2.2.2.2.2.2.2.1 | exact Zs z.2.2.2.2.2.2.2.1 | exact Zl z.2.2.2.2.2.2.2.1 | exact Zg z.2.2.2.2.2.2.2.1 | exact z.2.2.2.2.2.2.2.2 | exact Zs z.2.2.2.2.2.2.2.2 | exact Zl z.2.2.2.2.2.2.2.2 | exact Zg z.2.2.2.2.2.2.2.2 | exact z.2.2.2.2.2.2.2.2.1 | exact Zs z.2.2.2.2.2.2.2.2.1 | exact Zl z.2.2.2.2.2.2.2.2.1 | exact Zg z.2.2.2.2.2.2.2.2.1 | exact z.2.2.2.2.2.2.2.2.2.1 | exact Zs z.2.2.2.2.2.2.2.2.2.1 | exact Zl z.2.2.2.2.2.2.2.2.2.1 | exact Zg z.2.2.2.2.2.2.2.2.2.1 | exact z.2.2.2.2.2.2.2.2.2.2.1 | exact Zs z.2.2.2.2.2.2.2.2.2.2.1 | exact Zl z.2.2.2.2.2.2.2.2.2.2.1 | exact Zg z.2.2.2.2.2.2.2.2.2.2.1 | exact z.2.2.2.2.2.2.2.2.2.2.2.1 | exact Zs z.2.2.2.2.2.2.2.2.2.2.2.1 | exact Zl z.2.2.2.2.2.2.2.2.2.2.2.1 | exact Zg z.2.2.2.2.2.2.2.2.2.2.2.1 | exact z.2.2.2.2.2.2.2.2.2.2.2.2.1 | exact Zs z.2.2.2.2.2.2.2.2.2.2.2.2.1 | exact Zl z.2.2.2.2.2.2.2.2.2.2.2.2.1 | exact Zg z.2.2.2.2.2.2.2.2.2.2.2.2.1 | exact z.2.2.2.2.2.2.2.2.2.2.2.2.2.1 | exact Zs z.2.2.2.2.2.2.2.2.2.2.2.2.2.1 | exact Zl z.2.2.2.2.2.2.2.2.2.2.2.2.2.1 | exact Zg z.2.2.2.2.2.2.2.2.2.2.2.2.2.1 | (clear z; (k_extra "mine:pj"))))
  k_with "mine:ne" => (first | (with_reducible assumption) | exact Ne.symm (by with_reducible assumption) | exact ne_lt (by with_reducible assumption) | exact ne_gt (by with_reducible assumption) | exact ne_lt (lt_led (by with_reducible assumption) (by k_mem)) | exact ne_gt (lt_led (by with_reducible assumption) (by k_mem)) | ((try dsimp only); with_reducible (k_extra "mine:pj")) | assumption | exact Nat.ne_of_lt (Nat.lt_succ_self _) | exact Nat.ne_of_gt (Nat.lt_succ_self _) | (walk_say "K_NE OMEGA"; refine neN ?_; (try dsimp only); omega))
  k_with "mine:nes" => (first | (refine And.intro ?_ ?_ <;> (k_extra "mine:nes")) | k_ne)
  k_with "mine:in" => (first | (with_reducible exact List.mem_cons_self) | (with_reducible assumption) | ((with_reducible refine List.mem_cons_of_mem _ ?_); (k_extra "mine:in")) | exact List.mem_cons_self | (refine List.mem_cons_of_mem _ ?_; (k_extra "mine:in")) | (refine List.mem_append_left _ ?_; (k_extra "mine:in")) | (refine List.mem_append_right _ ?_; (k_extra "mine:in")))
  k_with "mine:sub" => (first | (with_reducible exact sub_id) | (with_reducible exact sub_nil) | ((with_reducible refine sub_cons ?haW7 ?hbW7); (case haW7 => (k_extra "mine:in")); (case hbW7 => (k_extra "mine:sub"))) | ((with_reducible refine sub_both ?haW7 ?hbW7); (case haW7 => (k_extra "mine:sub")); (case hbW7 => (k_extra "mine:sub"))) | ((with_reducible refine sub_skip ?_); (k_extra "mine:sub")) | ((with_reducible refine sub_right ?_); (k_extra "mine:sub")) | ((with_reducible refine sub_left ?_); (k_extra "mine:sub")) | (simp only [List.nil_append, List.cons_append]; (k_extra "mine:sub")))
  k_with "mine:keys" => (first | (k_dflt (exact keys_of rfl rfl)) | (walk_say "K_KEYS LONG"; repeat (first | exact True.intro | refine And.intro ⟨_, _, rfl, rfl⟩ ?_)))
  k_with "mine:enter0" => ((refine' enter0 ?k1W7 ?k2W7 ?k3W7 ?k4W7 ?kKW7 ?k8W7 ?k6W7 ?k7W7 ?k9W7 ?kBW7 ?_ ?c2W7 ?c3W7 ?c4W7 ?c5W7; (case kKW7 => assumption); (case k1W7 => k_asm); (case k2W7 => k_asm); (case k3W7 => k_asm); (case k4W7 => k_asm); (case k6W7 => k_is); (case k7W7 => k_is); (case k8W7 => ktr_room); (case k9W7 => exact BindsTo.of_eq rfl); (case c5W7 => decide); (case kBW7 => exact locs rfl); (case c2W7 => exact rfl); (case c3W7 => exact rfl); (case c4W7 => exact rfl); k_whole; intro Lq9 hq9 tkq9 Fq9 Nq9 Bq9 Xq9 Tq9; (try dsimp only); (try k_fold)))
  k_with "mine:ret" => (((all_goals (try dsimp only)); (all_goals (try k_unfold)); (all_goals (try dsimp only))))
  k_with "mine:same" => (first | exact fun _ _ => rfl | exact fun _ _ _ => rfl | exact same_fg | exact same_fgN | (refine same_upY ?_; (k_extra "mine:same")) | (refine same_up (by rfl) ?_; (k_extra "mine:same")) | (refine same_upN (by rfl) ?_; (k_extra "mine:same")) | (intros; (try dsimp only [forget, up]); (repeat' split); all_goals first | rfl | (exfalso; subst_vars; (rename (List.contains _ _ = false) => hz9); (revert hz9); decide) | (exfalso; (rename (List.contains _ _ = false) => hz9); (rename (List.contains _ _ = true) => hz8); rw [hz9] at hz8; exact Bool.noConfusion hz8) | (exfalso; subst_vars; contradiction)))
  trivial
open PySem PySem.W PySem.Calls PySem.Spec PyProof.Rows

section
variable {w : World} {A₀ : Around} {s : Shared} {base h₀ : Heap} {outer : List Env} {L : Addr} {m mg mb : Str → Option Value} {p : Program} {loose : List Str} {mean : ExcName → Option Value}
  {dp un : Nat} {gd : Option (List Code)} {cn : Str} {cs : Scope} {a : Addr} {ccd : Value} {cl : List (Str × Addr)}

noncomputable def hinderI (ns : List Int) (x y : Int) : Int := Builtin.bitXor (Builtin.bitXor (ns.getD (Builtin.bitXor x y).toNat 0) (ns.getD x.toNat 0)) (ns.getD y.toNat 0)

set_option maxHeartbeats 4000000 in
theorem spec_hinder (B : Below A₀ base outer h₀) (F : Fr h₀ L s.heap m) (X : (hd.heap_1 w.params).In h₀) (T : Top p loose mean mg mb h₀) (hk : cs.kind = .function) (hd : dp + 1 < recursionLimit) (hu : un + 8 < cLine)
    {l : Addr} {vs : List Value} {ns : List Int} {x y : Int} {tx ty : Tok} (hl : s.heap.IsList l vs.toArray) (hi : IntsAre vs ns) (hfit : ns.length < 100) (hx : 0 ≤ x ∧ x < ns.length) (hy : 0 ≤ y ∧ y < ns.length) 
    (hxy : 0 ≤ Builtin.bitXor x y ∧ Builtin.bitXor x y < ns.length) :
    codeAny (model Challenge.rw_sn0075_01.row.prog w) (ktrTop dp un gd cn cs L a ccd cl outer) (.call (.ref 143) ⟨[.ref l, .int x tx, .int y ty], []⟩) (RetP s (fun v _ => ∃ t, v = .int (hinderI ns x y) t)) s := by
  revert X; k_fill; intro X
  k_dflt (k_extra "mine:enter0")
  k_steps
  (k_extra "mine:ret")
  exact retP (by assumption) ⟨_, rfl⟩

noncomputable def toldI (ns : List Int) (x y : Int) : Int :=
  Builtin.bitXor (ns.getD y.toNat 0) (Builtin.bitAnd (Builtin.bitXor (Builtin.bitXor (Builtin.bitAnd x y) ((Builtin.bitAnd x y).fdiv (2 ^ Int.toNat 2))) ((Builtin.bitXor (Builtin.bitAnd x y) ((Builtin.bitAnd x y).fdiv (2 ^ Int.toNat 2))).fdiv (2 ^ Int.toNat 1))) 1)
set_option maxHeartbeats 4000000 in
theorem spec_told (B : Below A₀ base outer h₀) (F : Fr h₀ L s.heap m) (X : (hd.heap_1 w.params).In h₀) (T : Top p loose mean mg mb h₀) (hk : cs.kind = .function) (hd : dp + 1 < recursionLimit) (hu : un + 8 < cLine)
    {l : Addr} {vs : List Value} {ns : List Int} {x y : Int} {tx ty : Tok} (hl : s.heap.IsList l vs.toArray) (hi : IntsAre vs ns) (hfit : ns.length < 100) (hx : 0 ≤ x ∧ x < ns.length) (hy : 0 ≤ y ∧ y < ns.length)  :
    codeAny (model Challenge.rw_sn0075_01.row.prog w) (ktrTop dp un gd cn cs L a ccd cl outer) (.call (.ref 155) ⟨[.ref l, .int x tx, .int y ty], []⟩) (RetP s (fun v _ => ∃ t, v = .int (toldI ns x y) t)) s := by
  revert X; k_fill; intro X
  k_dflt (k_extra "mine:enter0")
  k_steps
  (k_extra "mine:ret")
  exact retP (by assumption) ⟨_, rfl⟩

noncomputable def substI (x y : Str) : Int := if x = y then 0 else 1
set_option maxHeartbeats 4000000 in
theorem spec_subst (B : Below A₀ base outer h₀) (F : Fr h₀ L s.heap m) (X : (hd.heap_1 w.params).In h₀) (T : Top p loose mean mg mb h₀) (hk : cs.kind = .function) (hd : dp + 1 < recursionLimit) (hu : un + 8 < cLine)
    {x y : Str} {tx ty : Tok} (hx : x = Str.ofString "x" ∨ x = Str.ofString "X") (hy : y = Str.ofString "x" ∨ y = Str.ofString "X")  :
    codeAny (model Challenge.rw_sn0075_01.row.prog w) (ktrTop dp un gd cn cs L a ccd cl outer) (.call (.ref 115) ⟨[.str x tx, .str y ty], []⟩) (RetP s (fun v _ => ∃ t, v = .int (substI x y) t)) s := by
  revert X; k_fill; intro X
  rcases hx with rfl | rfl <;> rcases hy with rfl | rfl
  all_goals (
  k_dflt (k_extra "mine:enter0")
  k_steps)
  (k_extra "mine:ret")
  all_goals exact retP (by assumption) ⟨_, rfl⟩
end
end PartS1
section PartS2
open PySem PySem.W PySem.Calls PySem.Spec PyProof.Rows

section
variable {w : World} {A₀ : Around} {s : Shared} {base h₀ : Heap} {outer : List Env} {L : Addr} {m mg mb : Str → Option Value} {p : Program} {loose : List Str} {mean : ExcName → Option Value}
  {dp un : Nat} {gd : Option (List Code)} {cn : Str} {cs : Scope} {a : Addr} {ccd : Value} {cl : List (Str × Addr)}

theorem draw_start : ([30, 72, 66, 28] : List Int).length = 4 ∧ ∀ y ∈ ([30, 72, 66, 28] : List Int), 0 ≤ y := by decide
theorem draw_turn {ks : List Int} {i : Nat} {j : Nat} {x : Int} (h : ks.length = 4 ∧ ∀ y ∈ ks, 0 ≤ y) :
    (ks.set i (ks.getD j 0 + x.fmod 1000000)).length = 4 ∧ ∀ y ∈ ks.set i (ks.getD j 0 + x.fmod 1000000), 0 ≤ y := by
  refine ⟨by rw [List.length_set]; exact h.1, fun y hy => ?_⟩
  rcases List.mem_or_eq_of_mem_set hy with hy | rfl
  · exact h.2 y hy
  · have h1 : 0 ≤ x.fmod 1000000 := Int.fmod_nonneg_of_pos x (by decide)
    have h2 : 0 ≤ ks.getD j 0 := by
      rw [List.getD_eq_getElem?_getD]
      cases e : ks[j]? with
      | none => exact Int.le_refl _
      | some z => exact h.2 z (List.mem_of_getElem? e)
    omega

set_option maxHeartbeats 4000000 in
theorem spec_draw (B : Below A₀ base outer h₀) (F : Fr h₀ L s.heap m) (X : (hd.heap_1 w.params).In h₀) (T : Top p loose mean mg mb h₀) (hk : cs.kind = .function) (hd : dp + 1 < recursionLimit) (hu : un + 8 < cLine)
    {l : Addr} {vs : List Value} {ns : List Int} (hl : s.heap.IsList l vs.toArray) (hi : IntsAre vs ns) (hfit : ns.length < 100)  :
    codeAny (model Challenge.rw_sn0075_01.row.prog w) (ktrTop dp un gd cn cs L a ccd cl outer) (.call (.ref 122) ⟨[.ref l], []⟩) (RetP s (fun v h' => ∃ ks, (ks.length = 4 ∧ ∀ x ∈ ks, 0 ≤ x) ∧ NewInts s ks v h')) s := by
  revert X; k_fill; intro X
  k_dflt (k_extra "mine:enter0")
  (k_with "pyIter ref" => k_state (fun pre seeds => seeds.length = 4 ∧ ∀ x ∈ seeds, 0 ≤ x) "seeds")
  (k_with "state" => first | exact draw_start | exact draw_turn (by constructor <;> assumption))
  k_steps
  (k_extra "mine:ret")

  exact retP (by assumption) ⟨_, ⟨by assumption, by assumption⟩, newInts (by assumption) (by k_mem) (by assumption)⟩

end
end PartS2
section PartS3
theorem base_S3 : True := by
  w_top off
  k_with_none
  k_with "mine:step" => ((first | (k_unfold; (try dsimp only)) | (k_end; wrow_close) | walk1 | (dsimp only; walk1) | (leave1; walk_say "STEP leave1"; try dsimp only) | fail "no step"))
  k_with "storeName" => ((k_here; k_dflt (first | (refine' storeI ?FW7 ?NW7 ?_ ?aW7 ?bW7; (case FW7 => k_asm); (case NW7 => k_asm); (case aW7 => rfl); (case bW7 => rfl); k_whole; intro hq9 tq9 tkq9 Fq9 Nq9; (try k_sweep)) | (refine' storeU ?FW7 ?NW7 ?_ ?aW7 ?bW7; (case FW7 => k_asm); (case NW7 => k_asm); (case aW7 => rfl); (case bW7 => rfl); k_whole; intro hq9 tkq9 Fq9 Nq9; (try k_sweep)))))
  k_with "mine:pj" => (((rename (_ ∧ _) => z); first | exact z.1 | exact Zs z.1 | exact Zl z.1 | exact Zg z.1 | exact z.2 | exact Zs z.2 | exact Zl z.2 | exact Zg z.2 | exact z.2.1 | exact Zs z.2.1 | exact Zl z.2.1 | exact Zg z.2.1 | exact z.2.2 | exact Zs z.2.2 | exact Zl z.2.2 | exact Zg z.2.2 | exact z.2.2.1 | exact Zs z.2.2.1 | exact Zl z.2.2.1 | exact Zg z.2.2.1 | exact z.2.2.2 | exact Zs z.2.2.2 | exact Zl z.2.2.2 | exact Zg z.2.2.2 | exact z.2.2.2.1 | exact Zs z.2.2.2.1 | exact Zl z.2.2.2.1 | exact Zg z.2.2.2.1 | exact z.2.2.2.2 | exact Zs z.2.2.2.2 | exact Zl z.2.2.2.2 | exact Zg z.2.2.2.2 | exact z.2.2.2.2.1 | exact Zs z.2.2.2.2.1 | exact Zl z.2.2.2.2.1 | exact Zg z.2.2.2.2.1 | exact z.2.2.2.2.2 | exact Zs z.2.2.2.2.2 | exact Zl z.2.2.2.2.2 | exact Zg z.2.2.2.2.2 | exact z.2.2.2.2.2.1 | exact Zs z.2.2.2.2.2.1 | exact Zl z.2.2.2.2.2.1 | exact Zg z.2.2.2.2.2.1 | exact z.2.2.2.2.2.2 | exact Zs z.2.2.2.2.2.2 | exact Zl z.2.2.2.2.2.2 | exact Zg z.2.2.2.2.2.2 | exact z.2.2.2.2.2.2.1 | exact Zs z.2.2.2.2.2.2.1 | exact Zl z.2.2.2.2.2.2.1 | exact Zg z.2.2.2.2.2.2.1 | exact z.2.2.2.2.2.2.2 | exact Zs z.2.2.2.2.2.2.2 | exact Zl z.2.2.2.2.2.2.2 | exact Zg z.2.2.2.2.2.2.2 | exact z.2.2.2.2.2.2.2.1 | exact Zs z.2.2.2.2.2.2.2.1 | exact Zl z.2.2.2.2.2.2.2.1 | exact Zg z.2.2.2.2.2.2.2.1 | exact z.2.2.2.2.2.2.2.2 | exact Zs z.2.2.2.2.2.2.2.2 | exact Zl z.2.2.2.2.2.2.2.2 | exact Zg z.2.2.2.2.2.2.2.2 | exact z.2.2.2.2.2.2.2.2.1 | exact Zs z.2.2.2.2.2.2.2.2.1 | exact Zl z.2.2.2.2.2.2.2.2.1 | exact Zg z.2.2.2.2.2.2.2.2.1 | exact z.2.2.2.2.2.2.2.2.2.1 | exact Zs z.2.2.2.2.2.2.2.2.2.1 | exact Zl z.2.2.2.2.2.2.2.2.2.1 | exact Zg z.2.2.2.2.2.2.2.2.2.1 | exact z.2.2.2.2.2.2.2.2.2.2.1 | exact Zs z.2.2.2.2.2.2.2.2.2.2.1 | exact Zl z.2.2.2.2.2.2.2.2.2.2.1 | exact Zg z.2.2.2.2.2.2.2.2.2.2.1 | exact z.2.2.2.2.2.2.2.2.2.2.2.1 | exact Zs z.2.2.2.2.2.2.2.2.2.2.2.1 | exact Zl z.2.2.2.2.2.2.2.2.2.2.2.1 | exact Zg z.2.2.2.2.2.2.2.2.2.2.2.1 | exact z.2.2.2.2.2.2.2.2.2.2.2.2.1 | exact Zs z.2.2.2.2.2.2.2.2.2.2.2.2.1 | exact Zl z.2.2.2.2.2.2.2.2.2.2.2.2.1 | exact Zg z.2.2.2.2.2.2.2.2.2.2.2.2.1 | exact z.2.2.2.2.2.2.2.2.2.2.2.2.2.1 | exact Zs z.2.2.2.2.2.2.2.2.2.2.2.2.2.1 | exact Zl z.2.2.2.2.2.2.2.2.2.2.2.2.2.1 | exact Zg z.2.2.2.2.2.2.2.2.2.2.2.2.2.1 | (clear z; (k_extra "mine:pj"))))
  k_with "mine:ne" => (first | (with_reducible assumption) | exact Ne.symm (by with_reducible assumption) | exact ne_lt (by with_reducible assumption) | exact ne_gt (by with_reducible assumption) | exact ne_lt (lt_led (by with_reducible assumption) (by k_mem)) | exact ne_gt (lt_led (by with_reducible assumption) (by k_mem)) | ((try dsimp only); with_reducible (k_extra "mine:pj")) | assumption | exact Nat.ne_of_lt (Nat.lt_succ_self _) | exact Nat.ne_of_gt (Nat.lt_succ_self _) | (walk_say "K_NE OMEGA"; refine neN ?_; (try dsimp only); omega))
  k_with "mine:nes" => (first | (refine And.intro ?_ ?_ <;> (k_extra "mine:nes")) | k_ne)
  k_with "mine:in" => (first | (with_reducible exact List.mem_cons_self) | (with_reducible assumption) | ((with_reducible refine List.mem_cons_of_mem _ ?_); (k_extra "mine:in")) | exact List.mem_cons_self | (refine List.mem_cons_of_mem _ ?_; (k_extra "mine:in")) | (refine List.mem_append_left _ ?_; (k_extra "mine:in")) | (refine List.mem_append_right _ ?_; (k_extra "mine:in")))
  k_with "mine:sub" => (first | (with_reducible exact sub_id) | (with_reducible exact sub_nil) | ((with_reducible refine sub_cons ?haW7 ?hbW7); (case haW7 => (k_extra "mine:in")); (case hbW7 => (k_extra "mine:sub"))) | ((with_reducible refine sub_both ?haW7 ?hbW7); (case haW7 => (k_extra "mine:sub")); (case hbW7 => (k_extra "mine:sub"))) | ((with_reducible refine sub_skip ?_); (k_extra "mine:sub")) | ((with_reducible refine sub_right ?_); (k_extra "mine:sub")) | ((with_reducible refine sub_left ?_); (k_extra "mine:sub")) | (simp only [List.nil_append, List.cons_append]; (k_extra "mine:sub")))
  k_with "mine:keys" => (first | (k_dflt (exact keys_of rfl rfl)) | (walk_say "K_KEYS LONG"; repeat (first | exact True.intro | refine And.intro ⟨_, _, rfl, rfl⟩ ?_)))
  k_with "mine:enter0" => ((refine' enter0 ?k1W7 ?k2W7 ?k3W7 ?k4W7 ?kKW7 ?k8W7 ?k6W7 ?k7W7 ?k9W7 ?kBW7 ?_ ?c2W7 ?c3W7 ?c4W7 ?c5W7; (case kKW7 => assumption); (case k1W7 => k_asm); (case k2W7 => k_asm); (case k3W7 => k_asm); (case k4W7 => k_asm); (case k6W7 => k_is); (case k7W7 => k_is); (case k8W7 => ktr_room); (case k9W7 => exact BindsTo.of_eq rfl); (case c5W7 => decide); (case kBW7 => exact locs rfl); (case c2W7 => exact rfl); (case c3W7 => exact rfl); (case c4W7 => exact rfl); k_whole; intro Lq9 hq9 tkq9 Fq9 Nq9 Bq9 Xq9 Tq9; (try dsimp only); (try k_fold)))
  k_with "mine:ret" => (((all_goals (try dsimp only)); (all_goals (try k_unfold)); (all_goals (try dsimp only))))
  k_with "mine:same" => (first | exact fun _ _ => rfl | exact fun _ _ _ => rfl | exact same_fg | exact same_fgN | (refine same_upY ?_; (k_extra "mine:same")) | (refine same_up (by rfl) ?_; (k_extra "mine:same")) | (refine same_upN (by rfl) ?_; (k_extra "mine:same")) | (intros; (try dsimp only [forget, up]); (repeat' split); all_goals first | rfl | (exfalso; subst_vars; (rename (List.contains _ _ = false) => hz9); (revert hz9); decide) | (exfalso; (rename (List.contains _ _ = false) => hz9); (rename (List.contains _ _ = true) => hz8); rw [hz9] at hz8; exact Bool.noConfusion hz8) | (exfalso; subst_vars; contradiction)))
  trivial
open PySem PySem.W PySem.Calls PySem.Spec PyProof.Rows
theorem words_S3_1 : True := by
  k_with "InvEndN" => ((with_reducible refine stay ?_))
  k_with "execs cons" => ((k_here; (with_reducible refine execs_let ?_); intro qk))
  trivial

noncomputable def signS : Nat → Str
  | 0 => Str.ofString "&"
  | 1 => Str.ofString "|"
  | 2 => Str.ofString "<"
  | 3 => Str.ofString ">"
  | _ => Str.ofString "^"
noncomputable def TermAt (h : Heap) (v : Value) (q : Nat × Nat × Nat) : Prop := ∃ T tσ ta tb, v = .ref T ∧ IsTup h T #[.str (signS q.1) tσ, .int (q.2.1 : Int) ta, .int (q.2.2 : Int) tb]
noncomputable def cBit (p : Int) (a : Nat) : Int := Builtin.bitAnd (p.fdiv (2 ^ (a : Int).toNat)) 1
noncomputable def cVal (p : Int) (q : Nat × Nat × Nat) : Int :=
  match q with
  | (0, a, b) => if cBit p b < cBit p a then cBit p b else cBit p a
  | (1, a, b) => if cBit p b > cBit p a then cBit p b else cBit p a
  | (2, a, b) => cBit p b * (1 - cBit p a)
  | (3, a, b) => cBit p a * (1 - cBit p b)
  | (_, a, b) => cBit p a + cBit p b
section
variable {w : World} {A₀ : Around} {s : Shared} {base h₀ : Heap} {outer : List Env} {L : Addr} {m mg mb : Str → Option Value} {p : Program} {loose : List Str} {mean : ExcName → Option Value}
  {dp un : Nat} {gd : Option (List Code)} {cn : Str} {cs : Scope} {a : Addr} {ccd : Value} {cl : List (Str × Addr)}

theorem take_sum {α : Type} {f : α → Int} {qs : List α} {i : Nat} {x : α} {hi : i < qs.length} (e : qs[i] = x) (_ : i < qs.length) : ((qs.take (i + 1)).map f).sum = ((qs.take i).map f).sum + f x := by
  rw [List.take_add_one, List.getElem?_eq_getElem hi, e]
  simp
theorem bit01 (x : Int) : 0 ≤ Builtin.bitAnd x 1 ∧ Builtin.bitAnd x 1 ≤ 1 := by rw [bitAnd_m1]; omega
noncomputable abbrev valKs : List Str := [Str.ofString "sign", Str.ofString "one", Str.ofString "other", Str.ofString "first", Str.ofString "second"]
set_option maxHeartbeats 4000000 in
theorem spec_value (B : Below A₀ base outer h₀) (F : Fr h₀ L s.heap m) (X : (hd.heap_1 w.params).In h₀) (T : Top p loose mean mg mb h₀) (hk : cs.kind = .function) (hd : dp + 1 < recursionLimit) (hu : un + 8 < cLine)
    {l : Addr} {vs : List Value} {qs : List (Nat × Nat × Nat)} {pt : Int} {tp : Tok} (hl : s.heap.IsList l vs.toArray) (hlen : vs.length = qs.length) (hT : ∀ (i : Nat) v q, vs[i]? = some v → qs[i]? = some q → TermAt s.heap v q) (hq : ∀ q ∈ qs, q.1 < 5 ∧ q.2.1 < 4 ∧ q.2.2 < 4) (hp : 0 ≤ pt ∧ pt < 16) :
    codeAny (model Challenge.rw_sn0075_01.row.prog w) (ktrTop dp un gd cn cs L a ccd cl outer) (.call (.ref 129) ⟨[.ref l, .int pt tp], []⟩) (RetP s (fun v _ => ∃ t, v = .int (((qs.map (cVal pt)).sum).fmod 2) t)) s := by
  revert X; k_fill; intro X
  k_dflt (k_extra "mine:enter0")
  k_steps
  (rename Fr _ _ _ _ => kF); with_unfolding_all refine' For_turns kF ?_
  k_steps
  (rename Fr _ _ _ _ => kF1); (rename News _ _ _ _ => kN1)
  with_unfolding_all refine' iter_turnsB (m₀ := ?m0) (fun i m news => news = [] ∧ (∃ t, m (Str.ofString "value") = some (.int (((qs.take i).map (cVal pt)).sum) t)) ∧ ∀ z, valKs.contains z = false → z ≠ Str.ofString "value" → m z = ?m0 z) ?h1 hl kF1 kN1 ?h2 ?turn ?done
  case h1 => rfl
  case h2 => exact ⟨rfl, ⟨_, rfl⟩, fun _ _ _ => rfl⟩
  case turn =>
    rintro i v m₁ news₁ h tk own hv hadr hoff ⟨rfl, ⟨tv, hval⟩, hs⟩ F1 N1
    rw [forget1 hval hs] at F1
    have hi : i < qs.length := by rw [← hlen]; exact (List.getElem?_eq_some_iff.mp hv).1
    obtain ⟨T, tσ, ta, tb, rfl, hTup⟩ := hT i v qs[i] hv (List.getElem?_eq_getElem hi)
    have hb := hq qs[i] (List.getElem_mem hi)
    rcases e : qs[i] with ⟨k, a', b'⟩
    rw [e] at hTup hb
    dsimp only at hTup hb
    obtain ⟨hb1, hb2, hb3⟩ := hb
    clear kF1 kN1 hs hval hoff hadr
    have hA1 := bit01 (pt.fdiv (2 ^ (a' : Int).toNat))
    have hB1 := bit01 (pt.fdiv (2 ^ (b' : Int).toNat))
    have hk5 : k = 0 ∨ k = 1 ∨ k = 2 ∨ k = 3 ∨ k = 4 := by omega
    rcases hk5 with rfl | rfl | rfl | rfl | rfl
    all_goals (
      (try k_fold)
      k_steps)
    all_goals (
      refine InvEndN.intro (nx := []) (by assumption) (by assumption) ?_ rfl (fun p hp => nomatch (hp : p ∈ ([] : List (Addr × Obj)))) (fun p hp => hp)
      refine And.intro rfl (And.intro ?_ ?_)
      · refine ex_int rfl ?_
        rw [take_sum e hi]
        refine congrArg (_ + ·) ?_
        rfl
      · (k_extra "mine:same"))
  case done => 
    rintro m₁ news₁ h tk ⟨rfl, ⟨tv, hval⟩, hs⟩ F1 N1
    rw [forget1 hval hs] at F1
    clear kF1 kN1 hs hval
    (try k_fold)
    k_steps
    (k_extra "mine:ret")
    rw [hlen, List.take_length]
    exact retP (by assumption) ⟨_, rfl⟩
end
end PartS3
section PartS4
theorem base_S4 : True := by
  w_top off
  k_with_none
  k_with "mine:step" => ((first | (k_unfold; (try dsimp only)) | (k_end; wrow_close) | walk1 | (dsimp only; walk1) | (leave1; walk_say "STEP leave1"; try dsimp only) | fail "no step"))
  k_with "storeName" => ((k_here; k_dflt (first | (refine' storeI ?FW7 ?NW7 ?_ ?aW7 ?bW7; (case FW7 => k_asm); (case NW7 => k_asm); (case aW7 => rfl); (case bW7 => rfl); k_whole; intro hq9 tq9 tkq9 Fq9 Nq9; (try k_sweep)) | (refine' storeU ?FW7 ?NW7 ?_ ?aW7 ?bW7; (case FW7 => k_asm); (case NW7 => k_asm); (case aW7 => rfl); (case bW7 => rfl); k_whole; intro hq9 tkq9 Fq9 Nq9; (try k_sweep)))))
  k_with "mine:pj" => (((rename (_ ∧ _) => z); first | exact z.1 | exact Zs z.1 | exact Zl z.1 | exact Zg z.1 | exact z.2 | exact Zs z.2 | exact Zl z.2 | exact Zg z.2 | exact z.2.1 | exact Zs z.2.1 | exact Zl z.2.1 | exact Zg z.2.1 | exact z.2.2 | exact Zs z.2.2 | exact Zl z.2.2 | exact Zg z.2.2 | exact z.2.2.1 | exact Zs z.2.2.1 | exact Zl z.2.2.1 | exact Zg z.2.2.1 | exact z.2.2.2 | exact Zs z.2.2.2 | exact Zl z.2.2.2 | exact Zg z.2.2.2 | exact z.2.2.2.1 | exact Zs z.2.2.2.1 | exact Zl z.2.2.2.1 | exact Zg z.2.2.2.1 | exact z.2.2.2.2 | exact Zs z.2.2.2.2 | exact Zl z.2.2.2.2 | exact Zg z.2.2.2.2 | exact z.2.2.2.2.1 | exact Zs z.2.2.2.2.1 | exact Zl z.2.2.2.2.1 | exact Zg z.2.2.2.2.1 | exact z.2.2.2.2.2 | exact Zs z.2.2.2.2.2 | exact Zl z.2.2.2.2.2 | exact Zg z.2.2.2.2.2 | exact z.2.2.2.2.2.1 | exact Zs z.2.2.2.2.2.1 | exact Zl z.2.2.2.2.2.1 | exact Zg z.2.2.2.2.2.1 | exact z.2.2.2.2.2.2 | exact Zs z.2.2.2.2.2.2 | exact Zl z.2.2.2.2.2.2 | exact Zg z.2.2.2.2.2.2 | exact z.2.2.2.2.2.2.1 | exact Zs z.2.2.2.2.2.2.1 | exact Zl z.2.2.2.2.2.2.1 | exact Zg z.2.2.2.2.2.2.1 | exact z.2.2.2.2.2.2.2 | exact Zs z.2.2.2.2.2.2.2 | exact Zl z.2.2.2.2.2.2.2 | exact Zg z.2.2.2.2.2.2.2 | exact z.2.2.2.2.2.2.2.1 | exact Zs z.2.2.2.2.2.2.2.1 | exact Zl z.2.2.2.2.2.2.2.1 | exact Zg z.2.2.2.2.2.2.2.1 | exact z.2.2.2.2.2.2.2.2 | exact Zs z.2.2.2.2.2.2.2.2 | exact Zl z.2.2.2.2.2.2.2.2 | exact Zg z.2.2.2.2.2.2.2.2 | exact z.2.2.2.2.2.2.2.2.1 | exact Zs z.2.2.2.2.2.2.2.2.1 | exact Zl z.2.2.2.2.2.2.2.2.1 | exact Zg z.2.2.2.2.2.2.2.2.1 | exact z.2.2.2.2.2.2.2.2.2.1 | exact Zs z.2.2.2.2.2.2.2.2.2.1 | exact Zl z.2.2.2.2.2.2.2.2.2.1 | exact Zg z.2.2.2.2.2.2.2.2.2.1 | exact z.2.2.2.2.2.2.2.2.2.2.1 | exact Zs z.2.2.2.2.2.2.2.2.2.2.1 | exact Zl z.2.2.2.2.2.2.2.2.2.2.1 | exact Zg z.2.2.2.2.2.2.2.2.2.2.1 | exact z.2.2.2.2.2.2.2.2.2.2.2.1 | exact Zs z.2.2.2.2.2.2.2.2.2.2.2.1 | exact Zl z.2.2.2.2.2.2.2.2.2.2.2.1 | exact Zg z.2.2.2.2.2.2.2.2.2.2.2.1 | exact z.2.2.2.2.2.2.2.2.2.2.2.2.1 | exact Zs z.2.2.2.2.2.2.2.2.2.2.2.2.1 | exact Zl z.2.2.2.2.2.2.2.2.2.2.2.2.1 | exact Zg z.2.2.2.2.2.2.2.2.2.2.2.2.1 | exact z.2.2.2.2.2.2.2.2.2.2.2.2.2.1 | exact Zs z.2.2.2.2.2.2.2.2.2.2.2.2.2.1 | exact Zl z.2.2.2.2.2.2.2.2.2.2.2.2.2.1 | exact Zg z.2.2.2.2.2.2.2.2.2.2.2.2.2.1 | (clear z; (k_extra "mine:pj"))))
  k_with "mine:ne" => (first | (with_reducible assumption) | exact Ne.symm (by with_reducible assumption) | exact ne_lt (by with_reducible assumption) | exact ne_gt (by with_reducible assumption) | exact ne_lt (lt_led (by with_reducible assumption) (by k_mem)) | exact ne_gt (lt_led (by with_reducible assumption) (by k_mem)) | ((try dsimp only); with_reducible (k_extra "mine:pj")) | assumption | exact Nat.ne_of_lt (Nat.lt_succ_self _) | exact Nat.ne_of_gt (Nat.lt_succ_self _) | (walk_say "K_NE OMEGA"; refine neN ?_; (try dsimp only); omega))
  k_with "mine:nes" => (first | (refine And.intro ?_ ?_ <;> (k_extra "mine:nes")) | k_ne)
  k_with "mine:in" => (first | (with_reducible exact List.mem_cons_self) | (with_reducible assumption) | ((with_reducible refine List.mem_cons_of_mem _ ?_); (k_extra "mine:in")) | exact List.mem_cons_self | (refine List.mem_cons_of_mem _ ?_; (k_extra "mine:in")) | (refine List.mem_append_left _ ?_; (k_extra "mine:in")) | (refine List.mem_append_right _ ?_; (k_extra "mine:in")))
  k_with "mine:sub" => (first | (with_reducible exact sub_id) | (with_reducible exact sub_nil) | ((with_reducible refine sub_cons ?haW7 ?hbW7); (case haW7 => (k_extra "mine:in")); (case hbW7 => (k_extra "mine:sub"))) | ((with_reducible refine sub_both ?haW7 ?hbW7); (case haW7 => (k_extra "mine:sub")); (case hbW7 => (k_extra "mine:sub"))) | ((with_reducible refine sub_skip ?_); (k_extra "mine:sub")) | ((with_reducible refine sub_right ?_); (k_extra "mine:sub")) | ((with_reducible refine sub_left ?_); (k_extra "mine:sub")) | (simp only [List.nil_append, List.cons_append]; (k_extra "mine:sub")))
  k_with "mine:keys" => (first | (k_dflt (exact keys_of rfl rfl)) | (walk_say "K_KEYS LONG"; repeat (first | exact True.intro | refine And.intro ⟨_, _, rfl, rfl⟩ ?_)))
  k_with "mine:enter0" => ((refine' enter0 ?k1W7 ?k2W7 ?k3W7 ?k4W7 ?kKW7 ?k8W7 ?k6W7 ?k7W7 ?k9W7 ?kBW7 ?_ ?c2W7 ?c3W7 ?c4W7 ?c5W7; (case kKW7 => assumption); (case k1W7 => k_asm); (case k2W7 => k_asm); (case k3W7 => k_asm); (case k4W7 => k_asm); (case k6W7 => k_is); (case k7W7 => k_is); (case k8W7 => ktr_room); (case k9W7 => exact BindsTo.of_eq rfl); (case c5W7 => decide); (case kBW7 => exact locs rfl); (case c2W7 => exact rfl); (case c3W7 => exact rfl); (case c4W7 => exact rfl); k_whole; intro Lq9 hq9 tkq9 Fq9 Nq9 Bq9 Xq9 Tq9; (try dsimp only); (try k_fold)))
  k_with "mine:ret" => (((all_goals (try dsimp only)); (all_goals (try k_unfold)); (all_goals (try dsimp only))))
  k_with "mine:same" => (first | exact fun _ _ => rfl | exact fun _ _ _ => rfl | exact same_fg | exact same_fgN | (refine same_upY ?_; (k_extra "mine:same")) | (refine same_up (by rfl) ?_; (k_extra "mine:same")) | (refine same_upN (by rfl) ?_; (k_extra "mine:same")) | (intros; (try dsimp only [forget, up]); (repeat' split); all_goals first | rfl | (exfalso; subst_vars; (rename (List.contains _ _ = false) => hz9); (revert hz9); decide) | (exfalso; (rename (List.contains _ _ = false) => hz9); (rename (List.contains _ _ = true) => hz8); rw [hz9] at hz8; exact Bool.noConfusion hz8) | (exfalso; subst_vars; contradiction)))
  trivial
open PySem PySem.W PySem.Calls PySem.Spec PyProof.Rows
theorem words_S4_1 : True := by
  k_with "InvEndN" => ((with_reducible refine stay ?_))
  k_with "execs cons" => ((k_here; (with_reducible refine execs_let ?_); intro qk))
  trivial

noncomputable def opI (full n x y : Int) : Int :=
  if n = 19 then Builtin.bitAnd x y else if n = 18 then Builtin.bitOr x y else if n = 20 then Builtin.bitAnd y (Builtin.bitXor full x) else if n = 21 then Builtin.bitAnd x (Builtin.bitXor full y) else Builtin.bitXor x y
inductive Run (lts : List Int) (full : Int) : List Int → List Int → Int → Prop
  | done (v : Int) : Run lts full [] [v] v
  | letter (n : Int) (rest pile : List Int) (v : Int) (h1 : 256 ≤ n) (h2 : n - 256 < lts.length) : Run lts full rest (pile ++ [lts.getD (n - 256).toNat 0]) v → Run lts full (n :: rest) pile v
  | zero (rest pile : List Int) (v : Int) : Run lts full rest (pile ++ [0]) v → Run lts full (0 :: rest) pile v
  | op (n : Int) (rest pile : List Int) (v : Int) (h1 : 0 < n) (h2 : n < 256) (h3 : 2 ≤ pile.length) : Run lts full rest (pile.dropLast.dropLast ++ [opI full n (pile.getLastD 0) (pile.dropLast.getLastD 0)]) v → Run lts full (n :: rest) pile v

section
variable {w : World} {A₀ : Around} {s : Shared} {base h₀ : Heap} {outer : List Env} {L : Addr} {m mg mb : Str → Option Value} {p : Program} {loose : List Str} {mean : ExcName → Option Value}
  {dp un : Nat} {gd : Option (List Code)} {cn : Str} {cs : Scope} {a : Addr} {ccd : Value} {cl : List (Str × Addr)}

set_option maxHeartbeats 4000000 in
theorem spec_nonterm (B : Below A₀ base outer h₀) (F : Fr h₀ L s.heap m) (X : (hd.heap_1 w.params).In h₀) (T : Top p loose mean mg mb h₀) (hk : cs.kind = .function) (hd : dp + 1 < recursionLimit)
    {n : Int} {tn : Tok} :
    codeAny (model Challenge.rw_sn0075_01.row.prog w) (ktrTop dp un gd cn cs L a ccd cl outer) (.call (.ref 101) ⟨[.int n tn], []⟩) (RetP s (fun r _ => r = .bool (decide (256 ≤ n)))) s := by
  revert X; k_fill; intro X
  k_dflt (k_extra "mine:enter0")
  k_steps
  (k_extra "mine:ret")
  exact retP (by assumption) rfl
set_option maxHeartbeats 4000000 in
theorem spec_iseof (B : Below A₀ base outer h₀) (F : Fr h₀ L s.heap m) (X : (hd.heap_1 w.params).In h₀) (T : Top p loose mean mg mb h₀) (hk : cs.kind = .function) (hd : dp + 1 < recursionLimit)
    {n : Int} {tn : Tok} :
    codeAny (model Challenge.rw_sn0075_01.row.prog w) (ktrTop dp un gd cn cs L a ccd cl outer) (.call (.ref 108) ⟨[.int n tn], []⟩) (RetP s (fun r _ => r = .bool (decide (n = 0)))) s := by
  revert X; k_fill; intro X
  k_dflt (k_extra "mine:enter0")
  k_steps
  (k_extra "mine:ret")
  exact retP (by assumption) rfl
theorem words_S4_2 : True := by
  k_with "exec For Name Subscript cons nil" => (((rename Fr _ _ _ _ => lFq9); (with_unfolding_all refine' For_turns lFq9 ?_); k_whole))
  k_with "call ref" => ((k_here; k_dflt ( (first | refine' use_spec ?FW7 ?NW7 (spec_nonterm ?BW7 ?F1W7 ?XW7 ?TW7 rfl ?dW7) ?_ | refine' use_spec ?FW7 ?NW7 (spec_iseof ?BW7 ?F1W7 ?XW7 ?TW7 rfl ?dW7) ?_); (case FW7 => k_asm); (case NW7 => k_asm); (case BW7 => k_asm); (case F1W7 => k_asm); (case XW7 => k_asm); (case TW7 => k_asm); (case dW7 => ktr_room); (intro vq9 hq9 tkq9 Fq9 Nq9 Eq9 qq9; subst qq9); (try k_sweep))))
  trivial
set_option maxHeartbeats 4000000 in
theorem spec_table (B : Below A₀ base outer h₀) (F : Fr h₀ L s.heap m) (X : (hd.heap_1 w.params).In h₀) (T : Top p loose mean mg mb h₀) (hk : cs.kind = .function) (hd : dp + 2 < recursionLimit) (hu : un + 16 < cLine)
    {lr ll : Addr} {vr vl : List Value} {row lts : List Int} {full v : Int} {tf : Tok} (hr : s.heap.IsList lr vr.toArray) (hl : s.heap.IsList ll vl.toArray) (hri : IntsAre vr row) (hli : IntsAre vl lts) (hn1 : row.length < 100) (hn2 : lts.length < 100)
    (hRun : Run lts full row.reverse [] v) :
    codeAny (model Challenge.rw_sn0075_01.row.prog w) (ktrTop dp un gd cn cs L a ccd cl outer) (.call (.ref 136) ⟨[.ref lr, .ref ll, .int full tf], []⟩) (RetP s (fun r _ => ∃ t, r = .int v t)) s := by
  revert X; k_fill; intro X
  k_dflt (k_extra "mine:enter0")
  k_steps
  (rename Fr _ _ _ _ => kF); (rename News _ _ _ _ => kN); (rename IntsAre _ row.reverse => kI); (rename (@LT.lt Nat _ _ _ ∧ True) => kl1)
  refine addr2 kN ?_; intro D P eD eP; subst eD eP
  with_unfolding_all refine' iter_turnsL (m₀ := ?m0) (fun i m news => (∃ pvs pile k, news = [(P, W.listOf pvs.toArray k)] ∧ IntsAre pvs pile ∧ pile.length ≤ i ∧ Run lts full (row.reverse.drop i) pile v) ∧ ∀ z, [Str.ofString "symbol", Str.ofString "first", Str.ofString "second"].contains z = false → m z = ?m0 z) ?h1 kF kN rfl rfl ?h3 ?h2 ?turn ?done
  case h1 => rfl
  case h3 => (intro p hp; rw [List.mem_singleton.mp hp]; exact Nat.ne_of_lt kl1.1)
  case h2 => exact ⟨⟨[], [], 0, rfl, .nil, Nat.le_refl _, hRun⟩, fun _ _ => rfl⟩
  case turn =>
    rintro i v m₁ news₁ h tk own hv hadr hoff ⟨⟨pvs, pile, k, rfl, hpi, hpl, hR⟩, hs⟩ F1 N1
    rw [forget0 hs] at F1
    have hw := kI.length
    have hi : i < row.reverse.length := by rw [← hw]; exact (List.getElem?_eq_some_iff.mp hv).1
    have hi' : i < 100 := by rw [List.length_reverse] at hi; omega
    have hplen := hpi.length
    obtain ⟨tn, hx⟩ := kI.get i row.reverse[i] (List.getElem?_eq_getElem hi)
    rw [hv] at hx
    cases hx
    rw [List.drop_eq_getElem_cons hi] at hR
    generalize row.reverse[i] = n at *
    clear hs hadr
    simp only [List.cons_append, List.nil_append] at N1
    have hoff1 : ∀ q ∈ own, q.1 ≠ P := hoff.ne (.head _)
    cases hR with
    | letter h1 h2 h3 => 
      rename Run _ _ _ _ _ => hRR
      (try k_fold)
      k_steps
      refine inv_end1 (by assumption) (by assumption) (by k_mem) (fun p hp => List.Mem.tail _ (List.Mem.tail _ hp)) ?_
      refine And.intro ⟨_, _, _, congrArg (fun o => [(P, o)]) (by rw [List.push_toArray]), hpi.append (.cons _ _ .nil), ?_, hRR⟩ ?_
      · rw [List.length_append]; simp; omega
      · (k_extra "mine:same")
    | zero h3 =>
      rename Run _ _ _ _ _ => hRR
      (try k_fold)
      k_steps
      refine inv_end1 (by assumption) (by assumption) (by k_mem) (fun p hp => List.Mem.tail _ (List.Mem.tail _ hp)) ?_
      refine And.intro ⟨_, _, _, congrArg (fun o => [(P, o)]) (by rw [List.push_toArray]), hpi.append (.cons _ _ .nil), ?_, hRR⟩ ?_
      · rw [List.length_append]; simp; omega
      · (k_extra "mine:same")
    | op h1 h2 h3 h4 =>
      rename Run _ _ _ _ _ => hRR
      have hd1 : 0 < pvs.dropLast.length := by rw [List.length_dropLast]; omega
      have hd2 : pvs.dropLast.length ≤ 100 := by rw [List.length_dropLast]; omega
      have hd3 : pvs.dropLast.dropLast.length ≤ 99 := by rw [List.length_dropLast, List.length_dropLast]; omega
      have hd4 : pile.dropLast.dropLast.length + 2 = pile.length := by rw [List.length_dropLast, List.length_dropLast]; omega
      (try k_fold)
      k_steps
      all_goals (
        rename IntsAre _ pile.dropLast.dropLast => hpp
        refine inv_end1 (by assumption) (by assumption) (by k_mem) (fun p hp => List.Mem.tail _ (List.Mem.tail _ hp)) ?_
        refine And.intro ⟨_, _, _, congrArg (fun o => [(P, o)]) (by rw [List.push_toArray]), hpp.append (.cons _ _ .nil), ?_, ?_⟩ ?_
        · rw [List.length_append]; simp; omega
        · refine Eq.mp (congrArg (fun x => Run lts full (List.drop (i + 1) row.reverse) (pile.dropLast.dropLast ++ [x]) v) ?_) hRR
          unfold opI
          (repeat' split) <;> first | rfl | (exfalso; simp only [decide_eq_true_eq, decide_eq_false_iff_not] at *; omega)
        · (k_extra "mine:same"))
  case done =>
    rintro m₁ news₁ h tk ⟨⟨pvs, pile, k, rfl, hpi, hpl, hR⟩, hs⟩ F1 N1
    rw [forget0 hs] at F1
    rw [kI.length, List.drop_length] at hR
    cases hR
    have hl1 : pvs.length = 1 := hpi.length
    clear hs
    (try k_fold)
    k_steps
    (k_extra "mine:ret")
    exact retP (by assumption) ⟨_, rfl⟩
end
end PartS4
section PartS5
theorem base_S5 : True := by
  w_top off
  k_with_none
  k_with "mine:step" => ((first | (k_unfold; (try dsimp only)) | (k_end; wrow_close) | walk1 | (dsimp only; walk1) | (leave1; walk_say "STEP leave1"; try dsimp only) | fail "no step"))
  k_with "storeName" => ((k_here; k_dflt (first | (refine' storeI ?FW7 ?NW7 ?_ ?aW7 ?bW7; (case FW7 => k_asm); (case NW7 => k_asm); (case aW7 => rfl); (case bW7 => rfl); k_whole; intro hq9 tq9 tkq9 Fq9 Nq9; (try k_sweep)) | (refine' storeU ?FW7 ?NW7 ?_ ?aW7 ?bW7; (case FW7 => k_asm); (case NW7 => k_asm); (case aW7 => rfl); (case bW7 => rfl); k_whole; intro hq9 tkq9 Fq9 Nq9; (try k_sweep)))))
  k_with "mine:pj" => (((rename (_ ∧ _) => z); first | exact z.1 | exact Zs z.1 | exact Zl z.1 | exact Zg z.1 | exact z.2 | exact Zs z.2 | exact Zl z.2 | exact Zg z.2 | exact z.2.1 | exact Zs z.2.1 | exact Zl z.2.1 | exact Zg z.2.1 | exact z.2.2 | exact Zs z.2.2 | exact Zl z.2.2 | exact Zg z.2.2 | exact z.2.2.1 | exact Zs z.2.2.1 | exact Zl z.2.2.1 | exact Zg z.2.2.1 | exact z.2.2.2 | exact Zs z.2.2.2 | exact Zl z.2.2.2 | exact Zg z.2.2.2 | exact z.2.2.2.1 | exact Zs z.2.2.2.1 | exact Zl z.2.2.2.1 | exact Zg z.2.2.2.1 | exact z.2.2.2.2 | exact Zs z.2.2.2.2 | exact Zl z.2.2.2.2 | exact Zg z.2.2.2.2 | exact z.2.2.2.2.1 | exact Zs z.2.2.2.2.1 | exact Zl z.2.2.2.2.1 | exact Zg z.2.2.2.2.1 | exact z.2.2.2.2.2 | exact Zs z.2.2.2.2.2 | exact Zl z.2.2.2.2.2 | exact Zg z.2.2.2.2.2 | exact z.2.2.2.2.2.1 | exact Zs z.2.2.2.2.2.1 | exact Zl z.2.2.2.2.2.1 | exact Zg z.2.2.2.2.2.1 | exact z.2.2.2.2.2.2 | exact Zs z.2.2.2.2.2.2 | exact Zl z.2.2.2.2.2.2 | exact Zg z.2.2.2.2.2.2 | exact z.2.2.2.2.2.2.1 | exact Zs z.2.2.2.2.2.2.1 | exact Zl z.2.2.2.2.2.2.1 | exact Zg z.2.2.2.2.2.2.1 | exact z.2.2.2.2.2.2.2 | exact Zs z.2.2.2.2.2.2.2 | exact Zl z.2.2.2.2.2.2.2 | exact Zg z.2.2.2.2.2.2.2 | exact z.2.2.2.2.2.2.2.1 | exact Zs z.2.2.2.2.2.2.2.1 | exact Zl z.2.2.2.2.2.2.2.1 | exact Zg z.2.2.2.2.2.2.2.1 | exact z.2.2.2.2.2.2.2.2 | exact Zs z.2.2.2.2.2.2.2.2 | exact Zl z.2.2.2.2.2.2.2.2 | exact Zg z.2.2.2.2.2.2.2.2 | exact z.2.2.2.2.2.2.2.2.1 | exact Zs z.2.2.2.2.2.2.2.2.1 | exact Zl z.2.2.2.2.2.2.2.2.1 | exact Zg z.2.2.2.2.2.2.2.2.1 | exact z.2.2.2.2.2.2.2.2.2.1 | exact Zs z.2.2.2.2.2.2.2.2.2.1 | exact Zl z.2.2.2.2.2.2.2.2.2.1 | exact Zg z.2.2.2.2.2.2.2.2.2.1 | exact z.2.2.2.2.2.2.2.2.2.2.1 | exact Zs z.2.2.2.2.2.2.2.2.2.2.1 | exact Zl z.2.2.2.2.2.2.2.2.2.2.1 | exact Zg z.2.2.2.2.2.2.2.2.2.2.1 | exact z.2.2.2.2.2.2.2.2.2.2.2.1 | exact Zs z.2.2.2.2.2.2.2.2.2.2.2.1 | exact Zl z.2.2.2.2.2.2.2.2.2.2.2.1 | exact Zg z.2.2.2.2.2.2.2.2.2.2.2.1 | exact z.2.2.2.2.2.2.2.2.2.2.2.2.1 | exact Zs z.2.2.2.2.2.2.2.2.2.2.2.2.1 | exact Zl z.2.2.2.2.2.2.2.2.2.2.2.2.1 | exact Zg z.2.2.2.2.2.2.2.2.2.2.2.2.1 | exact z.2.2.2.2.2.2.2.2.2.2.2.2.2.1 | exact Zs z.2.2.2.2.2.2.2.2.2.2.2.2.2.1 | exact Zl z.2.2.2.2.2.2.2.2.2.2.2.2.2.1 | exact Zg z.2.2.2.2.2.2.2.2.2.2.2.2.2.1 | (clear z; (k_extra "mine:pj"))))
  k_with "mine:ne" => (first | (with_reducible assumption) | exact Ne.symm (by with_reducible assumption) | exact ne_lt (by with_reducible assumption) | exact ne_gt (by with_reducible assumption) | exact ne_lt (lt_led (by with_reducible assumption) (by k_mem)) | exact ne_gt (lt_led (by with_reducible assumption) (by k_mem)) | ((try dsimp only); with_reducible (k_extra "mine:pj")) | assumption | exact Nat.ne_of_lt (Nat.lt_succ_self _) | exact Nat.ne_of_gt (Nat.lt_succ_self _) | (walk_say "K_NE OMEGA"; refine neN ?_; (try dsimp only); omega))
  k_with "mine:nes" => (first | (refine And.intro ?_ ?_ <;> (k_extra "mine:nes")) | k_ne)
  k_with "mine:in" => (first | (with_reducible exact List.mem_cons_self) | (with_reducible assumption) | ((with_reducible refine List.mem_cons_of_mem _ ?_); (k_extra "mine:in")) | exact List.mem_cons_self | (refine List.mem_cons_of_mem _ ?_; (k_extra "mine:in")) | (refine List.mem_append_left _ ?_; (k_extra "mine:in")) | (refine List.mem_append_right _ ?_; (k_extra "mine:in")))
  k_with "mine:sub" => (first | (with_reducible exact sub_id) | (with_reducible exact sub_nil) | ((with_reducible refine sub_cons ?haW7 ?hbW7); (case haW7 => (k_extra "mine:in")); (case hbW7 => (k_extra "mine:sub"))) | ((with_reducible refine sub_both ?haW7 ?hbW7); (case haW7 => (k_extra "mine:sub")); (case hbW7 => (k_extra "mine:sub"))) | ((with_reducible refine sub_skip ?_); (k_extra "mine:sub")) | ((with_reducible refine sub_right ?_); (k_extra "mine:sub")) | ((with_reducible refine sub_left ?_); (k_extra "mine:sub")) | (simp only [List.nil_append, List.cons_append]; (k_extra "mine:sub")))
  k_with "mine:keys" => (first | (k_dflt (exact keys_of rfl rfl)) | (walk_say "K_KEYS LONG"; repeat (first | exact True.intro | refine And.intro ⟨_, _, rfl, rfl⟩ ?_)))
  k_with "mine:enter0" => ((refine' enter0 ?k1W7 ?k2W7 ?k3W7 ?k4W7 ?kKW7 ?k8W7 ?k6W7 ?k7W7 ?k9W7 ?kBW7 ?_ ?c2W7 ?c3W7 ?c4W7 ?c5W7; (case kKW7 => assumption); (case k1W7 => k_asm); (case k2W7 => k_asm); (case k3W7 => k_asm); (case k4W7 => k_asm); (case k6W7 => k_is); (case k7W7 => k_is); (case k8W7 => ktr_room); (case k9W7 => exact BindsTo.of_eq rfl); (case c5W7 => decide); (case kBW7 => exact locs rfl); (case c2W7 => exact rfl); (case c3W7 => exact rfl); (case c4W7 => exact rfl); k_whole; intro Lq9 hq9 tkq9 Fq9 Nq9 Bq9 Xq9 Tq9; (try dsimp only); (try k_fold)))
  k_with "mine:ret" => (((all_goals (try dsimp only)); (all_goals (try k_unfold)); (all_goals (try dsimp only))))
  k_with "mine:same" => (first | exact fun _ _ => rfl | exact fun _ _ _ => rfl | exact same_fg | exact same_fgN | (refine same_upY ?_; (k_extra "mine:same")) | (refine same_up (by rfl) ?_; (k_extra "mine:same")) | (refine same_upN (by rfl) ?_; (k_extra "mine:same")) | (intros; (try dsimp only [forget, up]); (repeat' split); all_goals first | rfl | (exfalso; subst_vars; (rename (List.contains _ _ = false) => hz9); (revert hz9); decide) | (exfalso; (rename (List.contains _ _ = false) => hz9); (rename (List.contains _ _ = true) => hz8); rw [hz9] at hz8; exact Bool.noConfusion hz8) | (exfalso; subst_vars; contradiction)))
  trivial
open PySem PySem.W PySem.Calls PySem.Spec PyProof.Rows

noncomputable def findDef (n : String) : List Stmt → Option (Arguments × List Stmt × Scope)
  | [] => none
  | .FunctionDef n' ps b _ _ _ sc _ _ _ :: r => if n' == Str.ofString n then some (ps, b, sc) else findDef n r
  | _ :: r => findDef n r
noncomputable def innerOf (n : String) : Option (Arguments × List Stmt × Scope) := (findDef n Challenge.pw_sn0075_01.main.body).bind fun x => findDef "inner" x.2.1

noncomputable def ledI (f D cc c1 c2 c3 : Addr) (fo oc o1 o2 o3 : Obj) (vals : List Value) (k : Nat) : List (Addr × Obj) :=
  [(D, W.listOf vals.toArray k), (f, fo), (cc, oc), (c1, o1), (c2, o2), (c3, o3)]

theorem words_S5_1 : True := by
  k_with "eval Name" => ((k_here; k_dflt (refine' nameX_F ?NW7 ?cW7 ?mW7 ?dW7 ?_ ?aW7 ?bW7 ?eW7 ?gW7; (case bW7 => exact rfl); (case NW7 => k_asm); (case cW7 => exact rfl); (case mW7 => k_mem); (case dW7 => assumption); (case aW7 => exact rfl); (case eW7 => decide); (case gW7 => decide); k_whole)))
  k_with "callWith ref" => ((k_here; k_dflt (refine' callWith_F ?k1W7 ?_; (case k1W7 => exact FnAt.of (by k_asm) (by k_mem)); k_whole)))
  trivial
/-- the table of a code's own codes: empty, or with the one of its inner def -/
noncomputable def TabHit (ln : Int) (q : String) (ps : Array Value) (ex : List (Addr × Obj)) : Prop :=
  ∃ c oc vs t, ps = #[rawInt ln, rawInt 4, .ref c] ∧ ex = [(c, oc)] ∧ oc.data = .fields vs ∧ vs[1]? = some (.str (Str.ofString q) t)
noncomputable def TabSt (ln : Int) (q : String) (ps : Array Value) (ex : List (Addr × Obj)) : Prop := (ps = #[] ∧ ex = []) ∨ TabHit ln q ps ex

section
variable {w : World} {mg mb : Str → Option Value} {p : Program} {loose : List Str} {mean : ExcName → Option Value}

noncomputable def InnerSpec (w : World) (mg mb : Str → Option Value) (p : Program) (loose : List Str) (mean : ExcName → Option Value) (f : Addr) (Led : List Value → Nat → List (Addr × Obj)) (n : Nat) (d : Nat) : Prop :=
  ∀ (A₀ : Around) (s : Shared) (base h₀ : Heap) (outer : List Env) (L : Addr) (m : Str → Option Value) (dp un : Nat) (gd : Option (List Code)) (cn : Str) (cs : Scope) (a : Addr) (ccd : Value) (cl : List (Str × Addr)),
    Below A₀ base outer h₀ → Fr h₀ L s.heap m → (hd.heap_1 w.params).In h₀ → Top p loose mean mg mb h₀ → cs.kind = .function → dp + d < recursionLimit →
    ∀ (vals : List Value) (k : Nat) (ds : List Int) (x lo hi : Nat) (X LO HI : Int) (t1 t2 t3 : Tok), News h₀ L s.heap (Led vals k) → IntsAre vals ds → X = x → LO = lo → HI = hi → lo + d = hi → 0 < d → hi ≤ ds.length → ds.length ≤ 17 → x < 2 ^ 17 →
    codeAny (model Challenge.rw_sn0075_01.row.prog w) (ktrTop dp un gd cn cs L a ccd cl outer) (.call (.ref f) ⟨[.int X t1, .int LO t2, .int HI t3], []⟩)
      (RetX ((Led vals k).map (·.1)) s (fun v h' => v = .none ∧ ∃ vals' k', (∀ q ∈ Led vals' k', h'.get? q.1 = some q.2) ∧ IntsAre vals' (ds.take lo ++ digs n d x ++ ds.drop hi))) s

set_option maxHeartbeats 400000 in
theorem inner_spec {ps : Arguments} {body : List Stmt} {sc : Scope} (he : innerOf "_int2digits" = some (ps, body, sc)) {f D cc c1 c2 c3 : Addr} {oc o1 o2 o3 : Obj} {vsc : Array Value} {qual : Str} {tcc tn : Tok} {n : Nat} {dc pm ct : Value}
    (hoc : oc.data = .fields vsc) (hoc1 : vsc[1]? = some (.str qual tcc)) (ho1 : o1.data = .cell (some (.int n tn))) (ho2 : o2.data = .cell (some (.ref f))) (ho3 : o3.data = .cell (some (.ref D))) (hn : 1 ≤ n ∧ n ≤ 9)
    (hf1 : @Ne Nat D f ∧ @Ne Nat D cc ∧ @Ne Nat D c1 ∧ @Ne Nat D c2 ∧ @Ne Nat D c3) :
    ∀ d, InnerSpec w mg mb p loose mean f (ledI f D cc c1 c2 c3 (fnMade (Str.ofString "inner") qual ps body sc [(Str.ofString "n", c1), (Str.ofString "inner", c2), (Str.ofString "a_digits", c3)] dc pm cc ct) oc o1 o2 o3) n d := by
  intro d
  induction d using Nat.strongRecOn with
  | ind d ih =>
  intro A₀ s base h₀ outer L m dp un gd cn cs a ccd cl B F X T hk hd vals k ds x lo hi XV LO HI t1 t2 t3 N hI hX hLO hHI hdd hd0 hhi hlen hx17
  have hvl := hI.length
  have hb1 : 0 ≤ LO ∧ LO < ds.length ∧ LO < vals.length := by omega
  have hmid : (LO + HI).fdiv (2 ^ Int.toNat 1) = ((lo + hi) / 2 : Nat) := by
    rw [hLO, hHI]
    show (_ : Int).fdiv 2 = _
    rw [Int.fdiv_eq_ediv_of_nonneg _ (by decide)]
    omega
  have hsh : ((LO + HI).fdiv (2 ^ Int.toNat 1) - LO) * (n : Int) = ((((lo + hi) / 2 - lo) * n : Nat) : Int) := by
    rw [hmid, hLO, Int.natCast_mul]
    congr 1
    omega
  have hsn : ((lo + hi) / 2 - lo) * n ≤ 17 * 9 := Nat.mul_le_mul (by omega) hn.2
  have hP : 0 ≤ ((LO + HI).fdiv (2 ^ Int.toNat 1) - LO) * (n : Int) ∧ ((LO + HI).fdiv (2 ^ Int.toNat 1) - LO) * (n : Int) ≤ 153 := by rw [hsh]; omega
  revert X; k_fill; intro X
  have he2 : innerOf "_int2digits" = some (_, _, _) := rfl
  rw [he2] at he
  cases he
  clear he2
  k_dflt (refine' enterXF B F X T N hk ?k8 ?ho ?hd ?hcd ?k9 ?kB ?_ ?c2 ?c3 ?c4 ?c5; (case k8 => ktr_room); (case ho => exact (N (f, _) (List.Mem.tail _ (List.Mem.head _))).1); (case hd => exact rfl); (case hcd => exact ⟨_, _, vsc, tcc, rfl, (N (cc, oc) (List.Mem.tail _ (List.Mem.tail _ (List.Mem.head _)))).1, hoc, hoc1⟩); (case k9 => exact BindsTo.of_eq rfl); (case kB => exact locs rfl); (case c2 => exact rfl); (case c3 => exact rfl); (case c4 => exact rfl); (case c5 => decide); k_whole; intro g L' h' tk' hg st1 F' N' B' X' T' l1; (try k_lt l1); (try dsimp only); (try k_fold))
  unfold ledI at N' l1
  k_lt l1
  iterate 18 (k_extra "mine:step")
  rotate_left
  k_steps
  · (k_extra "mine:ret")
    have h1 : LO + 1 = HI := by assumption
    have hd1 : d = 1 := by omega
    subst hd1
    subst hdd
    (rename Fr _ _ _ _ => kF); (rename News _ _ _ _ => kN)
    refine retX hg kF ⟨rfl, vals.set LO.toNat (Value.int XV t1), k, fun q hq => ?_, ?_⟩
    · exact (kN q hq).1
    · have e : ds.take lo ++ digs n 1 x ++ ds.drop (lo + 1) = ds.set LO.toNat XV := by
        rw [hLO, Int.toNat_natCast, set_place (by omega), hX]
        rfl
      rw [e]
      assumption
  · have h1 : LO + 1 ≠ HI := by assumption
    (rename Fr _ _ _ _ => kF); (rename News _ _ _ _ => kN)
    have hm1 : lo < (lo + hi) / 2 ∧ (lo + hi) / 2 < hi := by omega
    have hlow : Builtin.bitXor XV (XV.fdiv (2 ^ (((LO + HI).fdiv (2 ^ Int.toNat 1) - LO) * (n : Int)).toNat) * 2 ^ (((LO + HI).fdiv (2 ^ Int.toNat 1) - LO) * (n : Int)).toNat) = ((x % 2 ^ (((lo + hi) / 2 - lo) * n) : Nat) : Int) := by
      rw [hsh, hX, Int.toNat_natCast, low_bits]
    have hupp : XV.fdiv (2 ^ (((LO + HI).fdiv (2 ^ Int.toNat 1) - LO) * (n : Int)).toNat) = ((x / 2 ^ (((lo + hi) / 2 - lo) * n) : Nat) : Int) := by
      rw [hsh, hX, Int.toNat_natCast, fdiv_pow]
    refine use_specX (rest := []) kF kN (apart_of kN) (fun p hp => nomatch hp) (ih ((lo + hi) / 2 - lo) (by omega) _ _ _ _ _ _ _ _ _ _ _ _ _ _ _ B' kF X' T' rfl ?hdep vals k ds _ lo ((lo + hi) / 2) _ _ _ _ _ _ kN hI hlow hLO hmid (by omega) (by omega) (by omega) hlen ?hlt) ?_
    case hdep => ktr_room
    case hlt => exact Nat.lt_of_le_of_lt (Nat.mod_le _ _) hx17
    rintro v h2 tk2 F2 _ E2 ⟨rfl, vals2, k2, hq2, hI2⟩
    have N2 := news_turned (led' := ledI f D cc c1 c2 c3 _ oc o1 o2 o3 vals2 k2) kN rfl hq2
    clear kF kN hI
    unfold ledI at N2
    k_steps
    (rename Fr _ _ _ _ => kF); (rename News _ _ _ _ => kN)
    have hj : (lo + hi) / 2 - lo + (hi - (lo + hi) / 2) = d := by omega
    have hlen2 : (ds.take lo ++ digs n ((lo + hi) / 2 - lo) (x % 2 ^ (((lo + hi) / 2 - lo) * n)) ++ ds.drop ((lo + hi) / 2)).length = ds.length := by
      rw [List.length_append, List.length_append, List.length_take, List.length_drop, digs_length]; omega
    refine use_specX (rest := []) kF kN (apart_of kN) (fun p hp => nomatch hp) (ih (hi - (lo + hi) / 2) (by omega) _ _ _ _ _ _ _ _ _ _ _ _ _ _ _ B' kF X' T' rfl ?hdep2 vals2 k2 _ _ ((lo + hi) / 2) hi _ _ _ _ _ _ kN hI2 hupp hmid hHI (by omega) (by omega) (by omega) (by omega) ?hlt2) ?_
    case hdep2 => ktr_room
    case hlt2 => exact Nat.lt_of_le_of_lt (Nat.div_le_self _ _) hx17
    rintro v h3 tk3 F3 _ E3 ⟨rfl, vals3, k3, hq3, hI3⟩
    rw [digs_place (by omega) (by omega) (by omega) (by omega) hhi, hj] at hI3
    clear kF kN
    k_steps
    (k_extra "mine:ret")
    exact retX hg F3 ⟨rfl, vals3, k3, hq3, hI3⟩
end
theorem name_led {h₀ h : Heap} {L f cc D l a3 a2 a1 P : Addr} {fo oc Do lo o3 o2 o1 Po : Obj} {C : Prop} (_N : News h₀ L h [(f, fo), (cc, oc), (D, Do), (l, lo), (a3, o3), (a2, o2), (a1, o1), (P, Po)])
    (k : ∀ f' cc' oc' D' l' o3' o2' o1', f' = f → cc' = cc → oc' = oc → D' = D → l' = l → o3' = o3 → o2' = o2 → o1' = o1 → C) : C := k _ _ _ _ _ _ _ _ rfl rfl rfl rfl rfl rfl rfl rfl
theorem name_led2 {h₀ h : Heap} {L f cc D l a3 a2 a1 P : Addr} {fo oc Do lo o3 o2 o1 Po : Obj} {C : Prop} (_N : News h₀ L h [(f, fo), (D, Do), (l, lo), (a3, o3), (a2, o2), (a1, o1), (P, Po), (cc, oc)])
    (k : ∀ f' D' l' o3' o2' o1', f' = f → D' = D → l' = l → o3' = o3 → o2' = o2 → o1' = o1 → C) : C := k _ _ _ _ _ _ rfl rfl rfl rfl rfl rfl
section
variable {w : World} {A₀ : Around} {s : Shared} {base h₀ : Heap} {outer : List Env} {L : Addr} {m mg mb : Str → Option Value} {p : Program} {loose : List Str} {mean : ExcName → Option Value}
  {dp un : Nat} {gd : Option (List Code)} {cn : Str} {cs : Scope} {a : Addr} {ccd : Value} {cl : List (Str × Addr)}

set_option maxHeartbeats 4000000 in
theorem spec_i2d (B : Below A₀ base outer h₀) (F : Fr h₀ L s.heap m) (X : (hd.heap_1 w.params).In h₀) (T : Top p loose mean mg mb h₀) (hk : cs.kind = .function) (hd : dp + 20 < recursionLimit) (hu : un + 200 < cLine)
    {ps : Array Value} {ex : List (Addr × Obj)} (hT : TabSt 73 "_int2digits.<locals>.inner" ps ex)
    (N : News h₀ L s.heap ((38, tabObj ps) :: ex)) (hC : CodeHd h₀ 42 38) {x n : Nat} {tx tn : Tok} (hx : 0 < x) (hx2 : x < 2 ^ 17) (hn : 1 ≤ n ∧ n ≤ 9)
    {k : Nat} (hk1 : 1 ≤ k ∧ k ≤ 17) (hkk : ((Builtin.Int.intBits (x : Int) : Int) + n - 1).fdiv n = (k : Int)) :
    codeAny (model Challenge.rw_sn0075_01.row.prog w) (ktrTop dp un gd cn cs L a ccd cl outer) (.call (.ref 43) ⟨[.int x tx, .int n tn], []⟩)
      (RetX (((38, tabObj ps) :: ex).map (·.1)) s (fun r h' => ∃ D vals k0 ps' ex', r = .ref D ∧ s.heap.get? D = none ∧ h'.get? D = some (W.listOf vals.toArray k0) ∧ IntsAre vals (digs n k x) ∧
        TabHit 73 "_int2digits.<locals>.inner" ps' ex' ∧ (∀ q ∈ (38, tabObj ps') :: ex', h'.get? q.1 = some q.2) ∧ (∀ q ∈ ex', q ∈ ex ∨ s.heap.get? q.1 = none) ∧ (ex ≠ [] → ex' = ex))) s := by
  have hxi : (0 : Int) < (x : Int) := by omega
  have hni : (0 : Int) < (n : Int) := by omega
  revert X; k_fill; intro X
  rcases hT with ⟨rfl, rfl⟩ | ⟨c, oc, vs, t, rfl, rfl, hoc, hoc1⟩
  · k_dflt (refine' enterXC (news := [(38, tabObj #[])]) B F X T N hk ?k8 ?k6 ?k7 ?k9 ?kB ?kD ?_ ?c2 ?c3 ?c4; (case k6 => k_is); (case k7 => k_is); (case k8 => ktr_room); (case k9 => exact BindsTo.of_eq rfl); (case kB => exact rfl); (case kD => decide +kernel); (case c2 => exact rfl); (case c3 => exact rfl); (case c4 => exact rfl); k_whole; intro g L' h' tk' cells' hg st1 F' N' Y' B' X' T' l1; (try k_lt l1); k_cells Y'; (rename_i oA oB oC dA dB dC); (have dC1 : oC.data = Data.cell (some (Value.int (n : Int) tn)) := dC); (try simp only [List.cons_append, List.nil_append] at N'); (have hC1 := CodeHd.keeps hC st1); (try dsimp only); (try k_fold))
    k_steps
    all_goals try (exfalso; omega)
    (rename Fr _ _ _ _ => kF); (rename News _ _ _ _ => kN)
    refine name_led kN ?_
    intro f cc oc D l o3 o2 o1 e1 e2 e3 e4 e5 e6 e7 e8
    subst e1 e2 e3 e4 e5 e6 e7 e8
    have hz0 : (((Builtin.Int.intBits (x : Int) : Int) + n - 1).fdiv n).toNat = k := by rw [hkk]; rfl
    rw [hz0] at kN
    (rename IntsAre _ _ => kI); rw [hz0] at kI
    generalize (List.replicate k [Value.int 0 tk']).flatten = vals0 at *
    have hdl : ((List.replicate k [(0 : Int)]).flatten).length = k := by simp
    generalize (List.replicate k [(0 : Int)]).flatten = ds0 at *
    have N1 : News g L' _ (ledI f D cc (L' + 1) (L' + 1 + 1 + 1) (L' + 1 + 1) _ oc o1 o3 o2 vals0 0) := fun q hq => kN q (by
      simp only [ledI, List.mem_cons, List.not_mem_nil, or_false] at hq
      rcases hq with rfl | rfl | rfl | rfl | rfl | rfl <;> k_mem)
    (rename _[1]? = some _ => hO1)
    (rename oc.data = _ => hO)
    (rename (0 ≤ _ → _ = _) => e3z)
    have n1e := e3z (by rw [hkk]; omega)
    rw [hkk] at n1e
    have hTB : News g L' _ [((38 : Addr), tabObj #[rawInt 73, rawInt 4, Value.ref cc])] := fun q hq => kN q (by rw [List.mem_singleton.mp hq]; k_mem)
    refine use_specX (news := ledI f D cc (L' + 1) (L' + 1 + 1 + 1) (L' + 1 + 1) _ oc o1 o3 o2 vals0 0 ++ [((38 : Addr), tabObj #[rawInt 73, rawInt 4, Value.ref cc])]) (rest := [((38 : Addr), tabObj #[rawInt 73, rawInt 4, Value.ref cc])]) kF (News.append N1 hTB) (apart_of N1) ?hr (inner_spec (n := n) rfl hO hO1 dC1 (by assumption) (by assumption) hn (by omega) k _ _ _ _ _ _ _ _ _ _ _ _ _ _ _ B' kF X' T' rfl ?hdep vals0 0 ds0 x 0 k _ _ _ _ _ _ N1 kI rfl rfl ?hn1 (by omega) (by omega) (by omega) (by omega) hx2) ?_
    case hr =>
      intro q hq
      rw [List.mem_singleton.mp hq]
      refine ⟨List.mem_append_right _ (List.mem_singleton.mpr rfl), ?_⟩
      simp only [ledI, List.map_cons, List.map_nil, List.mem_cons, List.not_mem_nil, or_false, not_or]
      refine ⟨neN (by k_ne), neN (by k_ne), neN (by k_ne), neN (by k_ne), neN (by k_ne), neN (by k_ne)⟩
    case hdep => ktr_room
    case hn1 => omega
    rintro v h3 tk3 F3 N3 E3 ⟨rfl, vals3, k3, hq3, hI3⟩
    have N4 := News.append (news_turned (led' := ledI f D cc (L' + 1) (L' + 1 + 1 + 1) (L' + 1 + 1) _ oc o1 o3 o2 vals3 k3) N1 rfl hq3) N3
    have hD9 := fresh_back (D := D) hg (by simp only [List.map_cons, List.map_nil, List.mem_cons, List.not_mem_nil, or_false]; exact neN (by k_ne)) (kN (D, _) (by k_mem)).2.2
    have hc9 := fresh_back (D := cc) hg (by simp only [List.map_cons, List.map_nil, List.mem_cons, List.not_mem_nil, or_false]; exact neN (by k_ne)) (kN (cc, _) (by k_mem)).2.2
    clear kF kN N1 N3 kI hTB
    unfold ledI at N4
    simp only [List.cons_append, List.nil_append] at N4
    k_steps
    (k_extra "mine:ret")
    rw [List.take_zero, List.nil_append, List.drop_of_length_le (by omega), List.append_nil] at hI3
    refine retX hg F3 ⟨D, vals3, k3, #[rawInt 73, rawInt 4, Value.ref cc], [(cc, oc)], rfl, hD9, (N4 (D, _) (by k_mem)).1, hI3, ⟨cc, oc, _, _, rfl, rfl, hO, hO1⟩, fun q hq => ?_, fun q hq => .inr ?_, fun h => absurd rfl h⟩
    · rcases List.mem_cons.mp hq with rfl | hq
      · exact (N4 _ (by k_mem)).1
      · rw [List.mem_singleton.mp hq]; exact (N4 _ (by k_mem)).1
    · rw [List.mem_singleton.mp hq]; exact hc9
  · have hc38 : @Ne Nat c 38 := by
      intro e
      subst e
      have h1 := (N (38, _) (List.Mem.head _)).1
      have h2 := (N (38, oc) (List.Mem.tail _ (List.Mem.head _))).1
      rw [h1] at h2
      cases h2
      cases hoc
      simp [rawInt] at hoc1
    k_dflt (refine' enterXC (news := [(38, tabObj #[rawInt 73, rawInt 4, Value.ref c]), (c, oc)]) B F X T N hk ?k8 ?k6 ?k7 ?k9 ?kB ?kD ?_ ?c2 ?c3 ?c4; (case k6 => k_is); (case k7 => k_is); (case k8 => ktr_room); (case k9 => exact BindsTo.of_eq rfl); (case kB => exact rfl); (case kD => decide +kernel); (case c2 => exact rfl); (case c3 => exact rfl); (case c4 => exact rfl); k_whole; intro g L' h' tk' cells' hg st1 F' N' Y' B' X' T' l1; (try k_lt l1); k_cells Y'; (rename_i oA oB oC dA dB dC); (have dC1 : oC.data = Data.cell (some (Value.int (n : Int) tn)) := dC); (try simp only [List.cons_append, List.nil_append] at N'); (have hC1 := CodeHd.keeps hC st1); (try dsimp only); (try k_fold))
    k_steps
    all_goals try (exfalso; omega)
    (rename Fr _ _ _ _ => kF); (rename News _ _ _ _ => kN)
    refine name_led2 kN ?_
    intro f D l o3 o2 o1 e1 e4 e5 e6 e7 e8
    subst e1 e4 e5 e6 e7 e8
    have hz0 : (((Builtin.Int.intBits (x : Int) : Int) + n - 1).fdiv n).toNat = k := by rw [hkk]; rfl
    rw [hz0] at kN
    (rename IntsAre _ _ => kI); rw [hz0] at kI
    generalize (List.replicate k [Value.int 0 tk']).flatten = vals0 at *
    have hdl : ((List.replicate k [(0 : Int)]).flatten).length = k := by simp
    generalize (List.replicate k [(0 : Int)]).flatten = ds0 at *
    have N1 : News g L' _ (ledI f D c (L' + 1) (L' + 1 + 1 + 1) (L' + 1 + 1) _ oc o1 o3 o2 vals0 0) := fun q hq => kN q (by
      simp only [ledI, List.mem_cons, List.not_mem_nil, or_false] at hq
      rcases hq with rfl | rfl | rfl | rfl | rfl | rfl <;> k_mem)
    (rename (0 ≤ _ → _ = _) => e3z)
    have n1e := e3z (by rw [hkk]; omega)
    rw [hkk] at n1e
    have hTB : News g L' _ [((38 : Addr), tabObj #[rawInt 73, rawInt 4, Value.ref c])] := fun q hq => kN q (by rw [List.mem_singleton.mp hq]; k_mem)
    refine use_specX (news := ledI f D c (L' + 1) (L' + 1 + 1 + 1) (L' + 1 + 1) _ oc o1 o3 o2 vals0 0 ++ [((38 : Addr), tabObj #[rawInt 73, rawInt 4, Value.ref c])]) (rest := [((38 : Addr), tabObj #[rawInt 73, rawInt 4, Value.ref c])]) kF (News.append N1 hTB) (apart_of N1) ?hr (inner_spec (n := n) (tcc := t) rfl hoc ?hq1 dC1 (by assumption) (by assumption) hn (by omega) k _ _ _ _ _ _ _ _ _ _ _ _ _ _ _ B' kF X' T' rfl ?hdep vals0 0 ds0 x 0 k _ _ _ _ _ _ N1 kI rfl rfl ?hn1 (by omega) (by omega) (by omega) (by omega) hx2) ?_
    case hr =>
      intro q hq
      rw [List.mem_singleton.mp hq]
      refine ⟨List.mem_append_right _ (List.mem_singleton.mpr rfl), ?_⟩
      simp only [ledI, List.map_cons, List.map_nil, List.mem_cons, List.not_mem_nil, or_false, not_or]
      refine ⟨neN (by k_ne), neN (by k_ne), neN (by k_ne), neN (by k_ne), neN (by k_ne), neN (by k_ne)⟩
    case hq1 => exact hoc1
    case hdep => ktr_room
    case hn1 => omega
    rintro v h3 tk3 F3 N3 E3 ⟨rfl, vals3, k3, hq3, hI3⟩
    have N4 := News.append (news_turned (led' := ledI f D c (L' + 1) (L' + 1 + 1 + 1) (L' + 1 + 1) _ oc o1 o3 o2 vals3 k3) N1 rfl hq3) N3
    have hD9 := fresh_back (D := D) hg (by simp only [List.map_cons, List.map_nil, List.mem_cons, List.not_mem_nil, or_false, not_or]; exact ⟨neN (by k_ne), neN (by k_ne)⟩) (kN (D, _) (by k_mem)).2.2
    clear kF kN N1 N3 kI hTB
    unfold ledI at N4
    simp only [List.cons_append, List.nil_append] at N4
    k_steps
    (k_extra "mine:ret")
    rw [List.take_zero, List.nil_append, List.drop_of_length_le (by omega), List.append_nil] at hI3
    refine retX hg F3 ⟨D, vals3, k3, #[rawInt 73, rawInt 4, Value.ref c], [(c, oc)], rfl, hD9, (N4 (D, _) (by k_mem)).1, hI3, ⟨c, oc, _, _, rfl, rfl, hoc, hoc1⟩, fun q hq => ?_, fun q hq => .inl hq, fun _ => rfl⟩
    · rcases List.mem_cons.mp hq with rfl | hq
      · exact (N4 _ (by k_mem)).1
      · rw [List.mem_singleton.mp hq]; exact (N4 _ (by k_mem)).1
end
end PartS5
section PartS6
theorem base_S6 : True := by
  w_top off
  k_with_none
  k_with "mine:step" => ((first | (k_unfold; (try dsimp only)) | (k_end; wrow_close) | walk1 | (dsimp only; walk1) | (leave1; walk_say "STEP leave1"; try dsimp only) | fail "no step"))
  k_with "storeName" => ((k_here; k_dflt (first | (refine' storeI ?FW7 ?NW7 ?_ ?aW7 ?bW7; (case FW7 => k_asm); (case NW7 => k_asm); (case aW7 => rfl); (case bW7 => rfl); k_whole; intro hq9 tq9 tkq9 Fq9 Nq9; (try k_sweep)) | (refine' storeU ?FW7 ?NW7 ?_ ?aW7 ?bW7; (case FW7 => k_asm); (case NW7 => k_asm); (case aW7 => rfl); (case bW7 => rfl); k_whole; intro hq9 tkq9 Fq9 Nq9; (try k_sweep)))))
  k_with "mine:pj" => (((rename (_ ∧ _) => z); first | exact z.1 | exact Zs z.1 | exact Zl z.1 | exact Zg z.1 | exact z.2 | exact Zs z.2 | exact Zl z.2 | exact Zg z.2 | exact z.2.1 | exact Zs z.2.1 | exact Zl z.2.1 | exact Zg z.2.1 | exact z.2.2 | exact Zs z.2.2 | exact Zl z.2.2 | exact Zg z.2.2 | exact z.2.2.1 | exact Zs z.2.2.1 | exact Zl z.2.2.1 | exact Zg z.2.2.1 | exact z.2.2.2 | exact Zs z.2.2.2 | exact Zl z.2.2.2 | exact Zg z.2.2.2 | exact z.2.2.2.1 | exact Zs z.2.2.2.1 | exact Zl z.2.2.2.1 | exact Zg z.2.2.2.1 | exact z.2.2.2.2 | exact Zs z.2.2.2.2 | exact Zl z.2.2.2.2 | exact Zg z.2.2.2.2 | exact z.2.2.2.2.1 | exact Zs z.2.2.2.2.1 | exact Zl z.2.2.2.2.1 | exact Zg z.2.2.2.2.1 | exact z.2.2.2.2.2 | exact Zs z.2.2.2.2.2 | exact Zl z.2.2.2.2.2 | exact Zg z.2.2.2.2.2 | exact z.2.2.2.2.2.1 | exact Zs z.2.2.2.2.2.1 | exact Zl z.2.2.2.2.2.1 | exact Zg z.2.2.2.2.2.1 | exact z.2.2.2.2.2.2 | exact Zs z.2.2.2.2.2.2 | exact Zl z.2.2.2.2.2.2 | exact Zg z.2.2.2.2.2.2 | exact z.2.2.2.2.2.2.1 | exact Zs z.2.2.2.2.2.2.1 | exact Zl z.2.2.2.2.2.2.1 | exact Zg z.2.2.2.2.2.2.1 | exact z.2.2.2.2.2.2.2 | exact Zs z.2.2.2.2.2.2.2 | exact Zl z.2.2.2.2.2.2.2 | exact Zg z.2.2.2.2.2.2.2 | exact z.2.2.2.2.2.2.2.1 | exact Zs z.2.2.2.2.2.2.2.1 | exact Zl z.2.2.2.2.2.2.2.1 | exact Zg z.2.2.2.2.2.2.2.1 | exact z.2.2.2.2.2.2.2.2 | exact Zs z.2.2.2.2.2.2.2.2 | exact Zl z.2.2.2.2.2.2.2.2 | exact Zg z.2.2.2.2.2.2.2.2 | exact z.2.2.2.2.2.2.2.2.1 | exact Zs z.2.2.2.2.2.2.2.2.1 | exact Zl z.2.2.2.2.2.2.2.2.1 | exact Zg z.2.2.2.2.2.2.2.2.1 | exact z.2.2.2.2.2.2.2.2.2.1 | exact Zs z.2.2.2.2.2.2.2.2.2.1 | exact Zl z.2.2.2.2.2.2.2.2.2.1 | exact Zg z.2.2.2.2.2.2.2.2.2.1 | exact z.2.2.2.2.2.2.2.2.2.2.1 | exact Zs z.2.2.2.2.2.2.2.2.2.2.1 | exact Zl z.2.2.2.2.2.2.2.2.2.2.1 | exact Zg z.2.2.2.2.2.2.2.2.2.2.1 | exact z.2.2.2.2.2.2.2.2.2.2.2.1 | exact Zs z.2.2.2.2.2.2.2.2.2.2.2.1 | exact Zl z.2.2.2.2.2.2.2.2.2.2.2.1 | exact Zg z.2.2.2.2.2.2.2.2.2.2.2.1 | exact z.2.2.2.2.2.2.2.2.2.2.2.2.1 | exact Zs z.2.2.2.2.2.2.2.2.2.2.2.2.1 | exact Zl z.2.2.2.2.2.2.2.2.2.2.2.2.1 | exact Zg z.2.2.2.2.2.2.2.2.2.2.2.2.1 | exact z.2.2.2.2.2.2.2.2.2.2.2.2.2.1 | exact Zs z.2.2.2.2.2.2.2.2.2.2.2.2.2.1 | exact Zl z.2.2.2.2.2.2.2.2.2.2.2.2.2.1 | exact Zg z.2.2.2.2.2.2.2.2.2.2.2.2.2.1 | (clear z; (k_extra "mine:pj"))))
  k_with "mine:ne" => (first | (with_reducible assumption) | exact Ne.symm (by with_reducible assumption) | exact ne_lt (by with_reducible assumption) | exact ne_gt (by with_reducible assumption) | exact ne_lt (lt_led (by with_reducible assumption) (by k_mem)) | exact ne_gt (lt_led (by with_reducible assumption) (by k_mem)) | ((try dsimp only); with_reducible (k_extra "mine:pj")) | assumption | exact Nat.ne_of_lt (Nat.lt_succ_self _) | exact Nat.ne_of_gt (Nat.lt_succ_self _) | (walk_say "K_NE OMEGA"; refine neN ?_; (try dsimp only); omega))
  k_with "mine:nes" => (first | (refine And.intro ?_ ?_ <;> (k_extra "mine:nes")) | k_ne)
  k_with "mine:in" => (first | (with_reducible exact List.mem_cons_self) | (with_reducible assumption) | ((with_reducible refine List.mem_cons_of_mem _ ?_); (k_extra "mine:in")) | exact List.mem_cons_self | (refine List.mem_cons_of_mem _ ?_; (k_extra "mine:in")) | (refine List.mem_append_left _ ?_; (k_extra "mine:in")) | (refine List.mem_append_right _ ?_; (k_extra "mine:in")))
  k_with "mine:sub" => (first | (with_reducible exact sub_id) | (with_reducible exact sub_nil) | ((with_reducible refine sub_cons ?haW7 ?hbW7); (case haW7 => (k_extra "mine:in")); (case hbW7 => (k_extra "mine:sub"))) | ((with_reducible refine sub_both ?haW7 ?hbW7); (case haW7 => (k_extra "mine:sub")); (case hbW7 => (k_extra "mine:sub"))) | ((with_reducible refine sub_skip ?_); (k_extra "mine:sub")) | ((with_reducible refine sub_right ?_); (k_extra "mine:sub")) | ((with_reducible refine sub_left ?_); (k_extra "mine:sub")) | (simp only [List.nil_append, List.cons_append]; (k_extra "mine:sub")))
  k_with "mine:keys" => (first | (k_dflt (exact keys_of rfl rfl)) | (walk_say "K_KEYS LONG"; repeat (first | exact True.intro | refine And.intro ⟨_, _, rfl, rfl⟩ ?_)))
  k_with "mine:enter0" => ((refine' enter0 ?k1W7 ?k2W7 ?k3W7 ?k4W7 ?kKW7 ?k8W7 ?k6W7 ?k7W7 ?k9W7 ?kBW7 ?_ ?c2W7 ?c3W7 ?c4W7 ?c5W7; (case kKW7 => assumption); (case k1W7 => k_asm); (case k2W7 => k_asm); (case k3W7 => k_asm); (case k4W7 => k_asm); (case k6W7 => k_is); (case k7W7 => k_is); (case k8W7 => ktr_room); (case k9W7 => exact BindsTo.of_eq rfl); (case c5W7 => decide); (case kBW7 => exact locs rfl); (case c2W7 => exact rfl); (case c3W7 => exact rfl); (case c4W7 => exact rfl); k_whole; intro Lq9 hq9 tkq9 Fq9 Nq9 Bq9 Xq9 Tq9; (try dsimp only); (try k_fold)))
  k_with "mine:ret" => (((all_goals (try dsimp only)); (all_goals (try k_unfold)); (all_goals (try dsimp only))))
  k_with "mine:same" => (first | exact fun _ _ => rfl | exact fun _ _ _ => rfl | exact same_fg | exact same_fgN | (refine same_upY ?_; (k_extra "mine:same")) | (refine same_up (by rfl) ?_; (k_extra "mine:same")) | (refine same_upN (by rfl) ?_; (k_extra "mine:same")) | (intros; (try dsimp only [forget, up]); (repeat' split); all_goals first | rfl | (exfalso; subst_vars; (rename (List.contains _ _ = false) => hz9); (revert hz9); decide) | (exfalso; (rename (List.contains _ _ = false) => hz9); (rename (List.contains _ _ = true) => hz8); rw [hz9] at hz8; exact Bool.noConfusion hz8) | (exfalso; subst_vars; contradiction)))
  trivial
open PySem PySem.W PySem.Calls PySem.Spec PyProof.Rows

noncomputable def Srt (ns : List Int) : Prop := ∀ i j : Nat, i ≤ j → j < ns.length → ns.getD i 0 ≤ ns.getD j 0
/-- between lo and hi lies the place of x: what is ahead holds «low», what is behind «not low» -/
noncomputable def Cut (low : Int → Prop) (ns : List Int) (lo hi : Int) : Prop := (∀ i : Nat, (i : Int) < lo → low (ns.getD i 0)) ∧ ∀ i : Nat, hi ≤ (i : Int) → i < ns.length → ¬ low (ns.getD i 0)
theorem mid_is {lo hi : Int} (h0 : 0 ≤ lo) (h1 : lo ≤ hi) : (lo + hi).fdiv 2 = (lo + hi) / 2 := Int.fdiv_eq_ediv_of_nonneg _ (by decide)
section
variable {low : Int → Prop} {ns : List Int} {lo hi : Int}
theorem cut_start (low : Int → Prop) (ns : List Int) : Cut low ns 0 ns.length := ⟨fun i h => by omega, fun i h h' => by omega⟩
theorem cut_hi (hs : Srt ns) (hm : ∀ a b, a ≤ b → low b → low a) (h0 : 0 ≤ lo) (h1 : lo ≤ hi) (h2 : hi ≤ ns.length) (h3 : lo < hi) (c : Cut low ns lo hi) (hx : ¬ low (ns.getD ((lo + hi).fdiv 2).toNat 0)) :
    0 ≤ lo ∧ lo ≤ (lo + hi).fdiv 2 ∧ (lo + hi).fdiv 2 ≤ (ns.length : Int) ∧ Cut low ns lo ((lo + hi).fdiv 2) := by
  rw [mid_is h0 h1] at hx ⊢
  refine ⟨h0, by omega, by omega, c.1, fun i h4 h5 h6 => hx (hm _ _ (hs _ i ?_ h5) h6)⟩
  omega
theorem cut_lo (hs : Srt ns) (hm : ∀ a b, a ≤ b → low b → low a) (h0 : 0 ≤ lo) (h1 : lo ≤ hi) (h2 : hi ≤ ns.length) (h3 : lo < hi) (c : Cut low ns lo hi) (hx : low (ns.getD ((lo + hi).fdiv 2).toNat 0)) :
    0 ≤ (lo + hi).fdiv 2 + 1 ∧ (lo + hi).fdiv 2 + 1 ≤ hi ∧ hi ≤ (ns.length : Int) ∧ Cut low ns ((lo + hi).fdiv 2 + 1) hi := by
  rw [mid_is h0 h1] at hx ⊢
  refine ⟨by omega, by omega, h2, fun i h4 => hm _ _ (hs i _ ?_ ?_) hx, c.2⟩ <;> omega
theorem cut_m1 (h0 : 0 ≤ lo) (h1 : lo ≤ hi) (h3 : lo < hi) : ((lo + hi).fdiv 2 - lo).toNat < (hi - lo).toNat := by rw [mid_is h0 h1]; omega
theorem cut_m2 (h0 : 0 ≤ lo) (h1 : lo ≤ hi) (h3 : lo < hi) : (hi - ((lo + hi).fdiv 2 + 1)).toNat < (hi - lo).toNat := by rw [mid_is h0 h1]; omega
theorem cut_is [DecidablePred low] (h0 : 0 ≤ lo) (h1 : ¬ lo < hi) (h2 : lo ≤ hi) (h3 : hi ≤ ns.length) (c : Cut low ns lo hi) : lo = ((ns.countP (fun a => decide (low a)) : Nat) : Int) := by
  have e : lo = hi := by omega
  subst e
  have e2 : lo = (lo.toNat : Int) := by omega
  have key : ∀ (l : List Int) (k : Nat), k ≤ l.length → (∀ i, i < k → low (l.getD i 0)) → (∀ i, k ≤ i → i < l.length → ¬ low (l.getD i 0)) → l.countP (fun a => decide (low a)) = k := by
    intro l
    induction l with
    | nil => intro k hk _ _; simp at hk; subst hk; rfl
    | cons a r ih =>
      intro k hk g1 g2
      cases k with
      | zero =>
        have h4 : ¬ low a := g2 0 (Nat.le_refl _) (by simp)
        rw [List.countP_cons_of_neg (by simpa using h4)]
        exact ih 0 (Nat.zero_le _) (fun i h => by omega) fun i _ h5 => g2 (i + 1) (Nat.zero_le _) (by simpa using h5)
      | succ k =>
        have h4 : low a := g1 0 (by omega)
        rw [List.countP_cons_of_pos (by simpa using h4), ih k (by simpa using hk) (fun i h => g1 (i + 1) (by omega)) fun i h5 h6 => g2 (i + 1) (by omega) (by simpa using h6)]
  rw [key ns lo.toNat (by omega) (fun i h => c.1 i (by omega)) fun i h5 h6 => c.2 i (by omega) h6]
  exact e2
end

theorem words_S6_1 : True := by
  k_with "storeName" => ((k_here; k_dflt (refine' storeX_L ?FW7 ?NW7 ?_ ?aW7 ?bW7; (case FW7 => k_asm); (case NW7 => k_asm); (case aW7 => rfl); (case bW7 => rfl); k_whole; intro hq9 Fq9 Nq9; (try k_sweep))))
  trivial
section
variable {w : World} {A₀ : Around} {s : Shared} {base h₀ : Heap} {outer : List Env} {L : Addr} {m mg mb : Str → Option Value} {p : Program} {loose : List Str} {mean : ExcName → Option Value}
  {dp un : Nat} {gd : Option (List Code)} {cn : Str} {cs : Scope} {a : Addr} {ccd : Value} {cl : List (Str × Addr)}

set_option maxHeartbeats 4000000 in
theorem spec_bisr (B : Below A₀ base outer h₀) (F : Fr h₀ L s.heap m) (X : (hd.heap_1 w.params).In h₀) (T : Top p loose mean mg mb h₀) (hk : cs.kind = .function) (hd : dp + 1 < recursionLimit)
    {l : Addr} {vs : List Value} {ns : List Int} {x : Int} {tx t0 : Tok} (hl : s.heap.IsList l vs.toArray) (hi : IntsAre vs ns) (hfit : ns.length < 100) (hs : Srt ns) :
    codeAny (model Challenge.rw_sn0075_01.row.prog w) (ktrTop dp un gd cn cs L a ccd cl outer) (.call (.ref 82) ⟨[.ref l, .int x tx, .int 0 t0, .none], []⟩) (RetP s (fun r _ => ∃ t, r = .int ((ns.countP (fun a => decide (a ≤ x)) : Nat) : Int) t)) s := by
  have hmon : ∀ a b : Int, a ≤ b → b ≤ x → a ≤ x := fun a b h1 h2 => Int.le_trans h1 h2
  revert X; k_fill; intro X
  k_dflt (refine' enter0 ?k1 ?k2 ?k3 ?k4 ?kK ?k8 ?k6 ?k7 ?k9 ?kB ?_ ?c2 ?c3 ?c4 ?c5; (case kK => assumption); (case k1 => k_asm); (case k2 => k_asm); (case k3 => k_asm); (case k4 => k_asm); (case k6 => k_is); (case k7 => k_is); (case k8 => ktr_room); (case k9 => exact kp_binds (X.keeps F.keep) (fun _ => rfl)); (case c5 => decide); (case kB => exact locs rfl); (case c2 => exact rfl); (case c3 => exact rfl); (case c4 => exact rfl); k_whole; intro L' h' tk' F' N' B' X' T'; (try dsimp only); (try k_fold))
  (k_with "exec While Compare cons nil" => k_while (fun ks lo hi => 0 ≤ lo ∧ lo ≤ hi ∧ hi ≤ (ks.length : Int) ∧ Cut (fun a => a ≤ x) ns lo hi) (fun _ lo hi => (hi - lo).toNat) "lo" "hi")
  (k_with "state" => first
    | exact ⟨by omega, by omega, by omega, cut_start _ _⟩
    | exact cut_hi hs hmon (by assumption) (by assumption) (by assumption) (by assumption) (by assumption) (by first | omega | (show ¬ (_ ≤ _); omega) | (show (_ ≤ _); omega) | (show ¬ (_ < _); omega) | (show (_ < _); omega))
    | exact cut_lo hs hmon (by assumption) (by assumption) (by assumption) (by assumption) (by assumption) (by first | omega | (show ¬ (_ ≤ _); omega) | (show (_ ≤ _); omega) | (show ¬ (_ < _); omega) | (show (_ < _); omega))
    | fail "no")
  (k_with "measure" => first | exact cut_m1 (by assumption) (by assumption) (by assumption) | exact cut_m2 (by assumption) (by assumption) (by assumption) | fail "no")
  k_steps
  (k_extra "mine:ret")
  refine retP (by assumption) ⟨_, congrArg (Value.int · _) (cut_is (by assumption) (by assumption) (by assumption) (by assumption) (by assumption))⟩
set_option maxHeartbeats 4000000 in
theorem spec_bisr2 (B : Below A₀ base outer h₀) (F : Fr h₀ L s.heap m) (X : (hd.heap_1 w.params).In h₀) (T : Top p loose mean mg mb h₀) (hk : cs.kind = .function) (hd : dp + 1 < recursionLimit)
    {l : Addr} {vs : List Value} {ns : List Int} {x : Int} {tx : Tok} (hl : s.heap.IsList l vs.toArray) (hi : IntsAre vs ns) (hfit : ns.length < 100) (hs : Srt ns) :
    codeAny (model Challenge.rw_sn0075_01.row.prog w) (ktrTop dp un gd cn cs L a ccd cl outer) (.call (.ref 82) ⟨[.ref l, .int x tx], []⟩) (RetP s (fun r _ => ∃ t, r = .int ((ns.countP (fun a => decide (a ≤ x)) : Nat) : Int) t)) s := by
  have hmon : ∀ a b : Int, a ≤ b → b ≤ x → a ≤ x := fun a b h1 h2 => Int.le_trans h1 h2
  revert X; k_fill; intro X
  k_dflt (refine' enter0 ?k1 ?k2 ?k3 ?k4 ?kK ?k8 ?k6 ?k7 ?k9 ?kB ?_ ?c2 ?c3 ?c4 ?c5; (case kK => assumption); (case k1 => k_asm); (case k2 => k_asm); (case k3 => k_asm); (case k4 => k_asm); (case k6 => k_is); (case k7 => k_is); (case k8 => ktr_room); (case k9 => exact kp_binds (X.keeps F.keep) (fun _ => rfl)); (case c5 => decide); (case kB => exact locs rfl); (case c2 => exact rfl); (case c3 => exact rfl); (case c4 => exact rfl); k_whole; intro L' h' tk' F' N' B' X' T'; (try dsimp only); (try k_fold))
  (k_with "exec While Compare cons nil" => k_while (fun ks lo hi => 0 ≤ lo ∧ lo ≤ hi ∧ hi ≤ (ks.length : Int) ∧ Cut (fun a => a ≤ x) ns lo hi) (fun _ lo hi => (hi - lo).toNat) "lo" "hi")
  (k_with "state" => first
    | exact ⟨by omega, by omega, by omega, cut_start _ _⟩
    | exact cut_hi hs hmon (by assumption) (by assumption) (by assumption) (by assumption) (by assumption) (by first | omega | (show ¬ (_ ≤ _); omega) | (show (_ ≤ _); omega) | (show ¬ (_ < _); omega) | (show (_ < _); omega))
    | exact cut_lo hs hmon (by assumption) (by assumption) (by assumption) (by assumption) (by assumption) (by first | omega | (show ¬ (_ ≤ _); omega) | (show (_ ≤ _); omega) | (show ¬ (_ < _); omega) | (show (_ < _); omega))
    | fail "no")
  (k_with "measure" => first | exact cut_m1 (by assumption) (by assumption) (by assumption) | exact cut_m2 (by assumption) (by assumption) (by assumption) | fail "no")
  k_steps
  (k_extra "mine:ret")
  refine retP (by assumption) ⟨_, congrArg (Value.int · _) (cut_is (by assumption) (by assumption) (by assumption) (by assumption) (by assumption))⟩
set_option maxHeartbeats 4000000 in
theorem spec_bisl (B : Below A₀ base outer h₀) (F : Fr h₀ L s.heap m) (X : (hd.heap_1 w.params).In h₀) (T : Top p loose mean mg mb h₀) (hk : cs.kind = .function) (hd : dp + 1 < recursionLimit)
    {l : Addr} {vs : List Value} {ns : List Int} {x : Int} {tx : Tok} (hl : s.heap.IsList l vs.toArray) (hi : IntsAre vs ns) (hfit : ns.length < 100) (hs : Srt ns) :
    codeAny (model Challenge.rw_sn0075_01.row.prog w) (ktrTop dp un gd cn cs L a ccd cl outer) (.call (.ref 91) ⟨[.ref l, .int x tx], []⟩) (RetP s (fun r _ => ∃ t, r = .int ((ns.countP (fun a => decide (a < x)) : Nat) : Int) t)) s := by
  have hmon : ∀ a b : Int, a ≤ b → b < x → a < x := fun a b h1 h2 => Int.lt_of_le_of_lt h1 h2
  revert X; k_fill; intro X
  k_dflt (refine' enter0 ?k1 ?k2 ?k3 ?k4 ?kK ?k8 ?k6 ?k7 ?k9 ?kB ?_ ?c2 ?c3 ?c4 ?c5; (case kK => assumption); (case k1 => k_asm); (case k2 => k_asm); (case k3 => k_asm); (case k4 => k_asm); (case k6 => k_is); (case k7 => k_is); (case k8 => ktr_room); (case k9 => exact kp_binds (X.keeps F.keep) (fun _ => rfl)); (case c5 => decide); (case kB => exact locs rfl); (case c2 => exact rfl); (case c3 => exact rfl); (case c4 => exact rfl); k_whole; intro L' h' tk' F' N' B' X' T'; (try dsimp only); (try k_fold))
  (k_with "exec While Compare cons nil" => k_while (fun ks lo hi => 0 ≤ lo ∧ lo ≤ hi ∧ hi ≤ (ks.length : Int) ∧ Cut (fun a => a < x) ns lo hi) (fun _ lo hi => (hi - lo).toNat) "lo" "hi")
  (k_with "state" => first
    | exact ⟨by omega, by omega, by omega, cut_start _ _⟩
    | exact cut_hi hs hmon (by assumption) (by assumption) (by assumption) (by assumption) (by assumption) (by first | omega | (show ¬ (_ ≤ _); omega) | (show (_ ≤ _); omega) | (show ¬ (_ < _); omega) | (show (_ < _); omega))
    | exact cut_lo hs hmon (by assumption) (by assumption) (by assumption) (by assumption) (by assumption) (by first | omega | (show ¬ (_ ≤ _); omega) | (show (_ ≤ _); omega) | (show ¬ (_ < _); omega) | (show (_ < _); omega))
    | fail "no")
  (k_with "measure" => first | exact cut_m1 (by assumption) (by assumption) (by assumption) | exact cut_m2 (by assumption) (by assumption) (by assumption) | fail "no")
  k_steps
  (k_extra "mine:ret")
  refine retP (by assumption) ⟨_, congrArg (Value.int · _) (cut_is (by assumption) (by assumption) (by assumption) (by assumption) (by assumption))⟩
end
end PartS6
section PartS7
theorem base_S7 : True := by
  w_top off
  k_with_none
  k_with "mine:step" => ((first | (k_unfold; (try dsimp only)) | (k_end; wrow_close) | walk1 | (dsimp only; walk1) | (leave1; walk_say "STEP leave1"; try dsimp only) | fail "no step"))
  k_with "storeName" => ((k_here; k_dflt (first | (refine' storeI ?FW7 ?NW7 ?_ ?aW7 ?bW7; (case FW7 => k_asm); (case NW7 => k_asm); (case aW7 => rfl); (case bW7 => rfl); k_whole; intro hq9 tq9 tkq9 Fq9 Nq9; (try k_sweep)) | (refine' storeU ?FW7 ?NW7 ?_ ?aW7 ?bW7; (case FW7 => k_asm); (case NW7 => k_asm); (case aW7 => rfl); (case bW7 => rfl); k_whole; intro hq9 tkq9 Fq9 Nq9; (try k_sweep)))))
  k_with "mine:pj" => (((rename (_ ∧ _) => z); first | exact z.1 | exact Zs z.1 | exact Zl z.1 | exact Zg z.1 | exact z.2 | exact Zs z.2 | exact Zl z.2 | exact Zg z.2 | exact z.2.1 | exact Zs z.2.1 | exact Zl z.2.1 | exact Zg z.2.1 | exact z.2.2 | exact Zs z.2.2 | exact Zl z.2.2 | exact Zg z.2.2 | exact z.2.2.1 | exact Zs z.2.2.1 | exact Zl z.2.2.1 | exact Zg z.2.2.1 | exact z.2.2.2 | exact Zs z.2.2.2 | exact Zl z.2.2.2 | exact Zg z.2.2.2 | exact z.2.2.2.1 | exact Zs z.2.2.2.1 | exact Zl z.2.2.2.1 | exact Zg z.2.2.2.1 | exact z.2.2.2.2 | exact Zs z.2.2.2.2 | exact Zl z.2.2.2.2 | exact Zg z.2.2.2.2 | exact z.2.2.2.2.1 | exact Zs z.2.2.2.2.1 | exact Zl z.2.2.2.2.1 | exact Zg z.2.2.2.2.1 | exact z.2.2.2.2.2 | exact Zs z.2.2.2.2.2 | exact Zl z.2.2.2.2.2 | exact Zg z.2.2.2.2.2 | exact z.2.2.2.2.2.1 | exact Zs z.2.2.2.2.2.1 | exact Zl z.2.2.2.2.2.1 | exact Zg z.2.2.2.2.2.1 | exact z.2.2.2.2.2.2 | exact Zs z.2.2.2.2.2.2 | exact Zl z.2.2.2.2.2.2 | exact Zg z.2.2.2.2.2.2 | exact z.2.2.2.2.2.2.1 | exact Zs z.2.2.2.2.2.2.1 | exact Zl z.2.2.2.2.2.2.1 | exact Zg z.2.2.2.2.2.2.1 | exact z.2.2.2.2.2.2.2 | exact Zs z.2.2.2.2.2.2.2 | exact Zl z.2.2.2.2.2.2.2 | exact Zg z.2.2.2.2.2.2.2 | exact z.2.2.2.2.2.2.2.1 | exact Zs z.2.2.2.2.2.2.2.1 | exact Zl z.2.2.2.2.2.2.2.1 | exact Zg z.2.2.2.2.2.2.2.1 | exact z.2.2.2.2.2.2.2.2 | exact Zs z.2.2.2.2.2.2.2.2 | exact Zl z.2.2.2.2.2.2.2.2 | exact Zg z.2.2.2.2.2.2.2.2 | exact z.2.2.2.2.2.2.2.2.1 | exact Zs z.2.2.2.2.2.2.2.2.1 | exact Zl z.2.2.2.2.2.2.2.2.1 | exact Zg z.2.2.2.2.2.2.2.2.1 | exact z.2.2.2.2.2.2.2.2.2.1 | exact Zs z.2.2.2.2.2.2.2.2.2.1 | exact Zl z.2.2.2.2.2.2.2.2.2.1 | exact Zg z.2.2.2.2.2.2.2.2.2.1 | exact z.2.2.2.2.2.2.2.2.2.2.1 | exact Zs z.2.2.2.2.2.2.2.2.2.2.1 | exact Zl z.2.2.2.2.2.2.2.2.2.2.1 | exact Zg z.2.2.2.2.2.2.2.2.2.2.1 | exact z.2.2.2.2.2.2.2.2.2.2.2.1 | exact Zs z.2.2.2.2.2.2.2.2.2.2.2.1 | exact Zl z.2.2.2.2.2.2.2.2.2.2.2.1 | exact Zg z.2.2.2.2.2.2.2.2.2.2.2.1 | exact z.2.2.2.2.2.2.2.2.2.2.2.2.1 | exact Zs z.2.2.2.2.2.2.2.2.2.2.2.2.1 | exact Zl z.2.2.2.2.2.2.2.2.2.2.2.2.1 | exact Zg z.2.2.2.2.2.2.2.2.2.2.2.2.1 | exact z.2.2.2.2.2.2.2.2.2.2.2.2.2.1 | exact Zs z.2.2.2.2.2.2.2.2.2.2.2.2.2.1 | exact Zl z.2.2.2.2.2.2.2.2.2.2.2.2.2.1 | exact Zg z.2.2.2.2.2.2.2.2.2.2.2.2.2.1 | (clear z; (k_extra "mine:pj"))))
  k_with "mine:ne" => (first | (with_reducible assumption) | exact Ne.symm (by with_reducible assumption) | exact ne_lt (by with_reducible assumption) | exact ne_gt (by with_reducible assumption) | exact ne_lt (lt_led (by with_reducible assumption) (by k_mem)) | exact ne_gt (lt_led (by with_reducible assumption) (by k_mem)) | ((try dsimp only); with_reducible (k_extra "mine:pj")) | assumption | exact Nat.ne_of_lt (Nat.lt_succ_self _) | exact Nat.ne_of_gt (Nat.lt_succ_self _) | (walk_say "K_NE OMEGA"; refine neN ?_; (try dsimp only); omega))
  k_with "mine:nes" => (first | (refine And.intro ?_ ?_ <;> (k_extra "mine:nes")) | k_ne)
  k_with "mine:in" => (first | (with_reducible exact List.mem_cons_self) | (with_reducible assumption) | ((with_reducible refine List.mem_cons_of_mem _ ?_); (k_extra "mine:in")) | exact List.mem_cons_self | (refine List.mem_cons_of_mem _ ?_; (k_extra "mine:in")) | (refine List.mem_append_left _ ?_; (k_extra "mine:in")) | (refine List.mem_append_right _ ?_; (k_extra "mine:in")))
  k_with "mine:sub" => (first | (with_reducible exact sub_id) | (with_reducible exact sub_nil) | ((with_reducible refine sub_cons ?haW7 ?hbW7); (case haW7 => (k_extra "mine:in")); (case hbW7 => (k_extra "mine:sub"))) | ((with_reducible refine sub_both ?haW7 ?hbW7); (case haW7 => (k_extra "mine:sub")); (case hbW7 => (k_extra "mine:sub"))) | ((with_reducible refine sub_skip ?_); (k_extra "mine:sub")) | ((with_reducible refine sub_right ?_); (k_extra "mine:sub")) | ((with_reducible refine sub_left ?_); (k_extra "mine:sub")) | (simp only [List.nil_append, List.cons_append]; (k_extra "mine:sub")))
  k_with "mine:keys" => (first | (k_dflt (exact keys_of rfl rfl)) | (walk_say "K_KEYS LONG"; repeat (first | exact True.intro | refine And.intro ⟨_, _, rfl, rfl⟩ ?_)))
  k_with "mine:enter0" => ((refine' enter0 ?k1W7 ?k2W7 ?k3W7 ?k4W7 ?kKW7 ?k8W7 ?k6W7 ?k7W7 ?k9W7 ?kBW7 ?_ ?c2W7 ?c3W7 ?c4W7 ?c5W7; (case kKW7 => assumption); (case k1W7 => k_asm); (case k2W7 => k_asm); (case k3W7 => k_asm); (case k4W7 => k_asm); (case k6W7 => k_is); (case k7W7 => k_is); (case k8W7 => ktr_room); (case k9W7 => exact BindsTo.of_eq rfl); (case c5W7 => decide); (case kBW7 => exact locs rfl); (case c2W7 => exact rfl); (case c3W7 => exact rfl); (case c4W7 => exact rfl); k_whole; intro Lq9 hq9 tkq9 Fq9 Nq9 Bq9 Xq9 Tq9; (try dsimp only); (try k_fold)))
  k_with "mine:ret" => (((all_goals (try dsimp only)); (all_goals (try k_unfold)); (all_goals (try dsimp only))))
  k_with "mine:same" => (first | exact fun _ _ => rfl | exact fun _ _ _ => rfl | exact same_fg | exact same_fgN | (refine same_upY ?_; (k_extra "mine:same")) | (refine same_up (by rfl) ?_; (k_extra "mine:same")) | (refine same_upN (by rfl) ?_; (k_extra "mine:same")) | (intros; (try dsimp only [forget, up]); (repeat' split); all_goals first | rfl | (exfalso; subst_vars; (rename (List.contains _ _ = false) => hz9); (revert hz9); decide) | (exfalso; (rename (List.contains _ _ = false) => hz9); (rename (List.contains _ _ = true) => hz8); rw [hz9] at hz8; exact Bool.noConfusion hz8) | (exfalso; subst_vars; contradiction)))
  trivial
open PySem PySem.W PySem.Calls PySem.Spec PyProof.Rows
noncomputable def insI (ns : List Int) (x : Int) : List Int := ns.take (ns.countP (fun a => decide (a ≤ x))) ++ x :: ns.drop (ns.countP (fun a => decide (a ≤ x)))
section
variable {w : World} {A₀ : Around} {s : Shared} {base h₀ : Heap} {outer : List Env} {L : Addr} {m mg mb : Str → Option Value} {p : Program} {loose : List Str} {mean : ExcName → Option Value}
  {dp un : Nat} {gd : Option (List Code)} {cn : Str} {cs : Scope} {a : Addr} {ccd : Value} {cl : List (Str × Addr)}
theorem words_S7_1 : True := by
  k_with "call ref" => ((k_here; k_dflt ( (refine' use_spec ?FW7 ?NW7 (spec_bisr ?BW7 ?F1W7 ?XW7 ?TW7 rfl ?dW7 ?lW7 ?iW7 ?fW7 ?sW7) ?_); (case FW7 => k_asm); (case NW7 => k_asm); (case BW7 => k_asm); (case F1W7 => k_asm); (case XW7 => k_asm); (case TW7 => k_asm); (case dW7 => ktr_room); (case lW7 => is_list); (case iW7 => assumption); (case fW7 => assumption); (case sW7 => assumption); (intro vq9 hq9 tkq9 Fq9 Nq9 Eq9 qq9; obtain ⟨tq9, qq9⟩ := qq9; subst qq9); (try k_sweep))))
  trivial
set_option maxHeartbeats 4000000 in
theorem spec_insort (B : Below A₀ base outer h₀) (F : Fr h₀ L s.heap m) (X : (hd.heap_1 w.params).In h₀) (T : Top p loose mean mg mb h₀) (hk : cs.kind = .function) (hd : dp + 2 < recursionLimit)
    {D : Addr} {vs : List Value} {k : Nat} {ns : List Int} {x : Int} {tx : Tok} (N : News h₀ L s.heap [(D, W.listOf vs.toArray k)]) (hi : IntsAre vs ns) (hfit : ns.length < 100) (hs : Srt ns) :
    codeAny (model Challenge.rw_sn0075_01.row.prog w) (ktrTop dp un gd cn cs L a ccd cl outer) (.call (.ref 73) ⟨[.ref D, .int x tx], []⟩) (RetX [D] s (fun r h' => r = .none ∧ ∃ vs' k', h'.get? D = some (W.listOf vs'.toArray k') ∧ IntsAre vs' (insI ns x))) s := by
  revert X; k_fill; intro X
  have hvl := hi.length
  k_dflt (refine' enterX (news := [(D, W.listOf vs.toArray k)]) B F X T N hk ?k8 ?k6 ?k7 ?k9 ?kB ?_ ?c2 ?c3 ?c4 ?c5; (case k6 => k_is); (case k7 => k_is); (case k8 => ktr_room); (case k9 => exact kp_binds (X.keeps F.keep) (fun _ => rfl)); (case c5 => decide); (case kB => exact locs rfl); (case c2 => exact rfl); (case c3 => exact rfl); (case c4 => exact rfl); k_whole; intro g L' h' tk' hg st1 F' N' B' X' T' l1; (try k_lt l1); (try dsimp only); (try k_fold))
  k_steps
  (rename Fr _ _ _ _ => kF); (rename News _ _ _ _ => kN)
  have hc : ns.countP (fun a => decide (a ≤ x)) ≤ ns.length := List.countP_le_length
  refine kl_insert kF kN ?hf rfl (Upd.head (fun p hp => nomatch hp)) ?hz ?_
  case hf => 
    unfold Builtin.List.listFitsIndex
    simp only [Bool.and_eq_true, decide_eq_true_eq]
    omega
  case hz => (show vs.length ≤ _; rw [sizeLine_eq]; omega)
  intro h2 F2 N2
  clear kF kN
  k_steps
  (k_extra "mine:ret")
  refine retX hg F2 ⟨rfl, _, _, (N2 (D, _) (by k_mem)).1, ?_⟩
  unfold kl_ins insI
  have e : (if ((ns.countP (fun a => decide (a ≤ x)) : Nat) : Int) < 0 then (((ns.countP (fun a => decide (a ≤ x)) : Nat) : Int) + (vs.length : Int)).toNat else min ((ns.countP (fun a => decide (a ≤ x)) : Nat) : Int).toNat vs.length) = ns.countP (fun a => decide (a ≤ x)) := by
    rw [if_neg (by omega), Int.toNat_natCast]; omega
  show IntsAre (vs.take (if ((ns.countP (fun a => decide (a ≤ x)) : Nat) : Int) < 0 then (((ns.countP (fun a => decide (a ≤ x)) : Nat) : Int) + (vs.length : Int)).toNat else min ((ns.countP (fun a => decide (a ≤ x)) : Nat) : Int).toNat vs.length) ++ _ :: vs.drop (if ((ns.countP (fun a => decide (a ≤ x)) : Nat) : Int) < 0 then (((ns.countP (fun a => decide (a ≤ x)) : Nat) : Int) + (vs.length : Int)).toNat else min ((ns.countP (fun a => decide (a ≤ x)) : Nat) : Int).toNat vs.length)) _
  rw [e]
  exact hi.take _ |>.append (.cons _ _ (hi.drop _))
end
end PartS7
section PartS8
theorem base_S8 : True := by
  w_top off
  k_with_none
  k_with "mine:step" => ((first | (k_unfold; (try dsimp only)) | (k_end; wrow_close) | walk1 | (dsimp only; walk1) | (leave1; walk_say "STEP leave1"; try dsimp only) | fail "no step"))
  k_with "storeName" => ((k_here; k_dflt (first | (refine' storeI ?FW7 ?NW7 ?_ ?aW7 ?bW7; (case FW7 => k_asm); (case NW7 => k_asm); (case aW7 => rfl); (case bW7 => rfl); k_whole; intro hq9 tq9 tkq9 Fq9 Nq9; (try k_sweep)) | (refine' storeU ?FW7 ?NW7 ?_ ?aW7 ?bW7; (case FW7 => k_asm); (case NW7 => k_asm); (case aW7 => rfl); (case bW7 => rfl); k_whole; intro hq9 tkq9 Fq9 Nq9; (try k_sweep)))))
  k_with "mine:pj" => (((rename (_ ∧ _) => z); first | exact z.1 | exact Zs z.1 | exact Zl z.1 | exact Zg z.1 | exact z.2 | exact Zs z.2 | exact Zl z.2 | exact Zg z.2 | exact z.2.1 | exact Zs z.2.1 | exact Zl z.2.1 | exact Zg z.2.1 | exact z.2.2 | exact Zs z.2.2 | exact Zl z.2.2 | exact Zg z.2.2 | exact z.2.2.1 | exact Zs z.2.2.1 | exact Zl z.2.2.1 | exact Zg z.2.2.1 | exact z.2.2.2 | exact Zs z.2.2.2 | exact Zl z.2.2.2 | exact Zg z.2.2.2 | exact z.2.2.2.1 | exact Zs z.2.2.2.1 | exact Zl z.2.2.2.1 | exact Zg z.2.2.2.1 | exact z.2.2.2.2 | exact Zs z.2.2.2.2 | exact Zl z.2.2.2.2 | exact Zg z.2.2.2.2 | exact z.2.2.2.2.1 | exact Zs z.2.2.2.2.1 | exact Zl z.2.2.2.2.1 | exact Zg z.2.2.2.2.1 | exact z.2.2.2.2.2 | exact Zs z.2.2.2.2.2 | exact Zl z.2.2.2.2.2 | exact Zg z.2.2.2.2.2 | exact z.2.2.2.2.2.1 | exact Zs z.2.2.2.2.2.1 | exact Zl z.2.2.2.2.2.1 | exact Zg z.2.2.2.2.2.1 | exact z.2.2.2.2.2.2 | exact Zs z.2.2.2.2.2.2 | exact Zl z.2.2.2.2.2.2 | exact Zg z.2.2.2.2.2.2 | exact z.2.2.2.2.2.2.1 | exact Zs z.2.2.2.2.2.2.1 | exact Zl z.2.2.2.2.2.2.1 | exact Zg z.2.2.2.2.2.2.1 | exact z.2.2.2.2.2.2.2 | exact Zs z.2.2.2.2.2.2.2 | exact Zl z.2.2.2.2.2.2.2 | exact Zg z.2.2.2.2.2.2.2 | exact z.2.2.2.2.2.2.2.1 | exact Zs z.2.2.2.2.2.2.2.1 | exact Zl z.2.2.2.2.2.2.2.1 | exact Zg z.2.2.2.2.2.2.2.1 | exact z.2.2.2.2.2.2.2.2 | exact Zs z.2.2.2.2.2.2.2.2 | exact Zl z.2.2.2.2.2.2.2.2 | exact Zg z.2.2.2.2.2.2.2.2 | exact z.2.2.2.2.2.2.2.2.1 | exact Zs z.2.2.2.2.2.2.2.2.1 | exact Zl z.2.2.2.2.2.2.2.2.1 | exact Zg z.2.2.2.2.2.2.2.2.1 | exact z.2.2.2.2.2.2.2.2.2.1 | exact Zs z.2.2.2.2.2.2.2.2.2.1 | exact Zl z.2.2.2.2.2.2.2.2.2.1 | exact Zg z.2.2.2.2.2.2.2.2.2.1 | exact z.2.2.2.2.2.2.2.2.2.2.1 | exact Zs z.2.2.2.2.2.2.2.2.2.2.1 | exact Zl z.2.2.2.2.2.2.2.2.2.2.1 | exact Zg z.2.2.2.2.2.2.2.2.2.2.1 | exact z.2.2.2.2.2.2.2.2.2.2.2.1 | exact Zs z.2.2.2.2.2.2.2.2.2.2.2.1 | exact Zl z.2.2.2.2.2.2.2.2.2.2.2.1 | exact Zg z.2.2.2.2.2.2.2.2.2.2.2.1 | exact z.2.2.2.2.2.2.2.2.2.2.2.2.1 | exact Zs z.2.2.2.2.2.2.2.2.2.2.2.2.1 | exact Zl z.2.2.2.2.2.2.2.2.2.2.2.2.1 | exact Zg z.2.2.2.2.2.2.2.2.2.2.2.2.1 | exact z.2.2.2.2.2.2.2.2.2.2.2.2.2.1 | exact Zs z.2.2.2.2.2.2.2.2.2.2.2.2.2.1 | exact Zl z.2.2.2.2.2.2.2.2.2.2.2.2.2.1 | exact Zg z.2.2.2.2.2.2.2.2.2.2.2.2.2.1 | (clear z; (k_extra "mine:pj"))))
  k_with "mine:ne" => (first | (with_reducible assumption) | exact Ne.symm (by with_reducible assumption) | exact ne_lt (by with_reducible assumption) | exact ne_gt (by with_reducible assumption) | exact ne_lt (lt_led (by with_reducible assumption) (by k_mem)) | exact ne_gt (lt_led (by with_reducible assumption) (by k_mem)) | ((try dsimp only); with_reducible (k_extra "mine:pj")) | assumption | exact Nat.ne_of_lt (Nat.lt_succ_self _) | exact Nat.ne_of_gt (Nat.lt_succ_self _) | (walk_say "K_NE OMEGA"; refine neN ?_; (try dsimp only); omega))
  k_with "mine:nes" => (first | (refine And.intro ?_ ?_ <;> (k_extra "mine:nes")) | k_ne)
  k_with "mine:in" => (first | (with_reducible exact List.mem_cons_self) | (with_reducible assumption) | ((with_reducible refine List.mem_cons_of_mem _ ?_); (k_extra "mine:in")) | exact List.mem_cons_self | (refine List.mem_cons_of_mem _ ?_; (k_extra "mine:in")) | (refine List.mem_append_left _ ?_; (k_extra "mine:in")) | (refine List.mem_append_right _ ?_; (k_extra "mine:in")))
  k_with "mine:sub" => (first | (with_reducible exact sub_id) | (with_reducible exact sub_nil) | ((with_reducible refine sub_cons ?haW7 ?hbW7); (case haW7 => (k_extra "mine:in")); (case hbW7 => (k_extra "mine:sub"))) | ((with_reducible refine sub_both ?haW7 ?hbW7); (case haW7 => (k_extra "mine:sub")); (case hbW7 => (k_extra "mine:sub"))) | ((with_reducible refine sub_skip ?_); (k_extra "mine:sub")) | ((with_reducible refine sub_right ?_); (k_extra "mine:sub")) | ((with_reducible refine sub_left ?_); (k_extra "mine:sub")) | (simp only [List.nil_append, List.cons_append]; (k_extra "mine:sub")))
  k_with "mine:keys" => (first | (k_dflt (exact keys_of rfl rfl)) | (walk_say "K_KEYS LONG"; repeat (first | exact True.intro | refine And.intro ⟨_, _, rfl, rfl⟩ ?_)))
  k_with "mine:enter0" => ((refine' enter0 ?k1W7 ?k2W7 ?k3W7 ?k4W7 ?kKW7 ?k8W7 ?k6W7 ?k7W7 ?k9W7 ?kBW7 ?_ ?c2W7 ?c3W7 ?c4W7 ?c5W7; (case kKW7 => assumption); (case k1W7 => k_asm); (case k2W7 => k_asm); (case k3W7 => k_asm); (case k4W7 => k_asm); (case k6W7 => k_is); (case k7W7 => k_is); (case k8W7 => ktr_room); (case k9W7 => exact BindsTo.of_eq rfl); (case c5W7 => decide); (case kBW7 => exact locs rfl); (case c2W7 => exact rfl); (case c3W7 => exact rfl); (case c4W7 => exact rfl); k_whole; intro Lq9 hq9 tkq9 Fq9 Nq9 Bq9 Xq9 Tq9; (try dsimp only); (try k_fold)))
  k_with "mine:ret" => (((all_goals (try dsimp only)); (all_goals (try k_unfold)); (all_goals (try dsimp only))))
  k_with "mine:same" => (first | exact fun _ _ => rfl | exact fun _ _ _ => rfl | exact same_fg | exact same_fgN | (refine same_upY ?_; (k_extra "mine:same")) | (refine same_up (by rfl) ?_; (k_extra "mine:same")) | (refine same_upN (by rfl) ?_; (k_extra "mine:same")) | (intros; (try dsimp only [forget, up]); (repeat' split); all_goals first | rfl | (exfalso; subst_vars; (rename (List.contains _ _ = false) => hz9); (revert hz9); decide) | (exfalso; (rename (List.contains _ _ = false) => hz9); (rename (List.contains _ _ = true) => hz8); rw [hz9] at hz8; exact Bool.noConfusion hz8) | (exfalso; subst_vars; contradiction)))
  trivial
open PySem PySem.W PySem.Calls PySem.Spec PyProof.Rows
theorem words_S8_1 : True := by
  k_with "execs cons" => ((k_here; (with_reducible refine execs_let ?_); intro qk))
  trivial

/-- the number of the digits, the first one the least -/
noncomputable def dval (n : Nat) : List Int → Int
  | [] => 0
  | d :: r => dval n r * 2 ^ n + d
theorem dval_append (n : Nat) : ∀ l r : List Int, dval n (l ++ r) = dval n r * 2 ^ (l.length * n) + dval n l
  | [], r => by simp [dval]
  | d :: l, r => by
    rw [List.cons_append, dval, dval_append n l r, dval, List.length_cons, Nat.succ_mul, Int.pow_add, Int.add_mul, Int.mul_assoc]
    omega

theorem dval_nonneg (n : Nat) : ∀ l : List Int, (∀ x ∈ l, 0 ≤ x) → 0 ≤ dval n l
  | [], _ => Int.le_refl 0
  | d :: r, h => by
    have h1 := dval_nonneg n r fun x hx => h x (.tail _ hx)
    have h2 := h d (.head _)
    have h3 : 0 ≤ dval n r * 2 ^ n := Int.mul_nonneg h1 (Int.le_of_lt (Int.pow_pos (by decide)))
    show 0 ≤ dval n r * 2 ^ n + d
    omega
theorem dval_part (n : Nat) {ds : List Int} (h : ∀ x ∈ ds, 0 ≤ x) (lo d : Nat) : 0 ≤ dval n ((ds.drop lo).take d) ∧ dval n ((ds.drop lo).take d) ≤ dval n ds := by
  have a1 := List.take_append_drop lo ds
  have a2 := List.take_append_drop d (ds.drop lo)
  have n1 := dval_nonneg n (ds.take lo) fun x hx => h x (List.mem_of_mem_take hx)
  have n2 := dval_nonneg n (ds.drop lo) fun x hx => h x (List.mem_of_mem_drop hx)
  have n3 := dval_nonneg n ((ds.drop lo).take d) fun x hx => h x (List.mem_of_mem_drop (List.mem_of_mem_take hx))
  have n4 := dval_nonneg n ((ds.drop lo).drop d) fun x hx => h x (List.mem_of_mem_drop (List.mem_of_mem_drop hx))
  have p1 : ∀ (x : Int) (k : Nat), 0 ≤ x → x ≤ x * 2 ^ k := fun x k hx => by
    have h2 : (1 : Int) ≤ 2 ^ k := by have := Int.pow_pos (n := 2) (m := k) (by decide); omega
    have h3 := Int.mul_le_mul_of_nonneg_left h2 hx
    omega
  have e1 := dval_append n (ds.take lo) (ds.drop lo)
  have e2 := dval_append n ((ds.drop lo).take d) ((ds.drop lo).drop d)
  rw [a1] at e1
  rw [a2] at e2
  have q1 := p1 _ ((ds.take lo).length * n) n2
  have q2 : 0 ≤ dval n ((ds.drop lo).drop d) * 2 ^ (((ds.drop lo).take d).length * n) := Int.mul_nonneg n4 (Int.le_of_lt (Int.pow_pos (by decide)))
  refine ⟨n3, ?_⟩
  omega

noncomputable def ledJ (f cc c1 c2 c3 : Addr) (fo oc o1 o2 o3 : Obj) : List (Addr × Obj) :=
  [(f, fo), (cc, oc), (c1, o1), (c2, o2), (c3, o3)]

section
variable {w : World} {mg mb : Str → Option Value} {p : Program} {loose : List Str} {mean : ExcName → Option Value}

noncomputable def InnerSpecJ (w : World) (mg mb : Str → Option Value) (p : Program) (loose : List Str) (mean : ExcName → Option Value) (f : Addr) (Led : List (Addr × Obj)) (l : Addr) (vals : List Value) (ds : List Int) (n : Nat) (d : Nat) : Prop :=
  ∀ (A₀ : Around) (s : Shared) (base h₀ : Heap) (outer : List Env) (L : Addr) (m : Str → Option Value) (dp un : Nat) (gd : Option (List Code)) (cn : Str) (cs : Scope) (a : Addr) (ccd : Value) (cl : List (Str × Addr)),
    Below A₀ base outer h₀ → Fr h₀ L s.heap m → (hd.heap_1 w.params).In h₀ → Top p loose mean mg mb h₀ → cs.kind = .function → dp + d < recursionLimit →
    h₀.IsList l vals.toArray →
    ∀ (lo hi : Nat) (LO HI : Int) (t2 t3 : Tok), News h₀ L s.heap Led → LO = lo → HI = hi → lo + d = hi → 0 < d → hi ≤ ds.length →
    codeAny (model Challenge.rw_sn0075_01.row.prog w) (ktrTop dp un gd cn cs L a ccd cl outer) (.call (.ref f) ⟨[.int LO t2, .int HI t3], []⟩)
      (RetX (Led.map (·.1)) s (fun v h' => (∃ t, v = .int (dval n ((ds.drop lo).take d)) t) ∧ ∀ q ∈ Led, h'.get? q.1 = some q.2)) s

theorem words_S8_2 : True := by
  k_with "eval Name" => ((k_here; k_dflt (refine' nameX_F ?NW7 ?cW7 ?mW7 ?dW7 ?_ ?aW7 ?bW7 ?eW7 ?gW7; (case bW7 => exact rfl); (case NW7 => k_asm); (case cW7 => exact rfl); (case mW7 => k_mem); (case dW7 => assumption); (case aW7 => exact rfl); (case eW7 => decide); (case gW7 => decide); k_whole)))
  k_with "callWith ref" => ((k_here; k_dflt (refine' callWith_F ?k1W7 ?_; (case k1W7 => exact FnAt.of (by k_asm) (by k_mem)); k_whole)))
  trivial

set_option maxHeartbeats 4000000 in
theorem innerJ_spec {ps : Arguments} {body : List Stmt} {sc : Scope} (he : innerOf "_digits2int" = some (ps, body, sc)) {f cc c1 c2 c3 l : Addr} {oc o1 o2 o3 : Obj} {vsc : Array Value} {qual : Str} {tcc tn : Tok} {n : Nat} {dc pm ct : Value} {vals : List Value} {ds : List Int}
    (hoc : oc.data = .fields vsc) (hoc1 : vsc[1]? = some (.str qual tcc)) (ho1 : o1.data = .cell (some (.int n tn))) (ho2 : o2.data = .cell (some (.ref f))) (ho3 : o3.data = .cell (some (.ref l))) (hn : 1 ≤ n ∧ n ≤ 9) (hI : IntsAre vals ds) (hlen : ds.length ≤ 17) (hnn : ∀ x ∈ ds, 0 ≤ x) (hmax : dval n ds < 2 ^ 62) :
    ∀ d, InnerSpecJ w mg mb p loose mean f (ledJ f cc c1 c2 c3 (fnMade (Str.ofString "inner") qual ps body sc [(Str.ofString "n", c1), (Str.ofString "inner", c2), (Str.ofString "digits", c3)] dc pm cc ct) oc o1 o2 o3) l vals ds n d := by
  intro d
  induction d using Nat.strongRecOn with
  | ind d ih =>
  intro A₀ s base h₀ outer L m dp un gd cn cs a ccd cl B F X T hk hd hl lo hi LO HI t2 t3 N hLO hHI hdd hd0 hhi
  have hvl := hI.length
  have hb1 : 0 ≤ LO ∧ LO < ds.length ∧ LO < vals.length := by omega
  have hmid : (LO + HI).fdiv (2 ^ Int.toNat 1) = ((lo + hi) / 2 : Nat) := by
    rw [hLO, hHI]
    show (_ : Int).fdiv 2 = _
    rw [Int.fdiv_eq_ediv_of_nonneg _ (by decide)]
    omega
  have hsh : ((LO + HI).fdiv (2 ^ Int.toNat 1) - LO) * (n : Int) = ((((lo + hi) / 2 - lo) * n : Nat) : Int) := by
    rw [hmid, hLO, Int.natCast_mul]
    congr 1
    omega
  have hsn : ((lo + hi) / 2 - lo) * n ≤ 17 * 9 := Nat.mul_le_mul (by omega) hn.2
  have hP : 0 ≤ ((LO + HI).fdiv (2 ^ Int.toNat 1) - LO) * (n : Int) ∧ ((LO + HI).fdiv (2 ^ Int.toNat 1) - LO) * (n : Int) ≤ 153 := by rw [hsh]; omega
  revert X; k_fill; intro X
  have he2 : innerOf "_digits2int" = some (_, _, _) := rfl
  rw [he2] at he
  cases he
  clear he2
  k_dflt (refine' enterXF B F X T N hk ?k8 ?ho ?hd ?hcd ?k9 ?kB ?_ ?c2 ?c3 ?c4 ?c5; (case k8 => ktr_room); (case ho => exact (N (f, _) (List.Mem.head _)).1); (case hd => exact rfl); (case hcd => exact ⟨_, _, vsc, tcc, rfl, (N (cc, oc) (List.Mem.tail _ (List.Mem.head _))).1, hoc, hoc1⟩); (case k9 => exact BindsTo.of_eq rfl); (case kB => exact locs rfl); (case c2 => exact rfl); (case c3 => exact rfl); (case c4 => exact rfl); (case c5 => decide); k_whole; intro g L' h' tk' hg st1 F' N' B' X' T' l1; (try k_lt l1); (try dsimp only); (try k_fold))
  have hlg : g.IsList l vals.toArray := hl.at fun o e => st1 l o e
  unfold ledJ at N' l1
  k_lt l1
  k_steps
  · (k_extra "mine:ret")
    have h1 : LO + 1 = HI := by assumption
    have hd1 : d = 1 := by omega
    subst hd1
    (rename Fr _ _ _ _ => kF); (rename News _ _ _ _ => kN)
    refine retX hg kF ⟨⟨_, congrArg (Value.int · _) ?_⟩, fun q hq => (kN q hq).1⟩
    rw [hLO, Int.toNat_natCast, List.take_one, List.head?_drop, List.getD_eq_getElem?_getD, List.getElem?_eq_getElem (by omega)]
    simp [dval]
  · have h1 : LO + 1 ≠ HI := by assumption
    (rename Fr _ _ _ _ => kF); (rename News _ _ _ _ => kN)
    have hm1 : lo < (lo + hi) / 2 ∧ (lo + hi) / 2 < hi := by omega
    refine use_specX (rest := []) kF kN (apart_of kN) (fun p hp => nomatch hp) (ih (hi - (lo + hi) / 2) (by omega) _ _ _ _ _ _ _ _ _ _ _ _ _ _ _ B' kF X' T' rfl ?hdep hlg ((lo + hi) / 2) hi _ _ _ _ kN hmid hHI (by omega) (by omega) hhi) ?_
    case hdep => ktr_room
    rintro v h2 tk2 F2 _ E2 ⟨⟨tv, rfl⟩, hq2⟩
    have N2 := news_turned (led' := ledJ f cc c1 c2 c3 _ oc o1 o2 o3) kN rfl hq2
    clear kF kN
    unfold ledJ at N2
    have hbv := dval_part n hnn ((lo + hi) / 2) (hi - (lo + hi) / 2)
    have hbw : (dval n ((ds.drop ((lo + hi) / 2)).take (hi - (lo + hi) / 2))).natAbs < 2 ^ 62 := by omega
    k_steps
    (rename Fr _ _ _ _ => kF); (rename News _ _ _ _ => kN)
    refine' use_specX (rest := []) kF kN (apart_of kN) (fun p hp => nomatch hp) ?h0 ?_
    case h0 => exact ih ((lo + hi) / 2 - lo) (by omega) _ _ _ _ _ _ _ _ _ _ _ _ _ _ _ B' kF X' T' rfl (by ktr_room) hlg lo ((lo + hi) / 2) _ _ _ _ kN hLO hmid (by omega) (by omega) (by omega)
    rintro v h3 tk3 F3 _ E3 ⟨⟨tv3, rfl⟩, hq3⟩
    have N3 := news_turned (led' := ledJ f cc c1 c2 c3 _ oc o1 o2 o3) kN rfl hq3
    clear kF kN
    unfold ledJ at N3
    k_steps
    (k_extra "mine:ret")
    refine retX hg F3 ⟨⟨_, congrArg (Value.int · _) ?_⟩, hq3⟩
    have hj : (lo + hi) / 2 - lo + (hi - (lo + hi) / 2) = d := by omega
    have hj2 : lo + ((lo + hi) / 2 - lo) = (lo + hi) / 2 := by omega
    have hl3 : (List.take ((lo + hi) / 2 - lo) (List.drop lo ds)).length = (lo + hi) / 2 - lo := by rw [List.length_take, List.length_drop]; omega
    rw [← hj, List.take_add, List.drop_drop, hj2, dval_append, hl3, hsh, Int.toNat_natCast]
end
end PartS8
section PartS9
theorem base_S9 : True := by
  w_top off
  k_with_none
  k_with "mine:step" => ((first | (k_unfold; (try dsimp only)) | (k_end; wrow_close) | walk1 | (dsimp only; walk1) | (leave1; walk_say "STEP leave1"; try dsimp only) | fail "no step"))
  k_with "storeName" => ((k_here; k_dflt (first | (refine' storeI ?FW7 ?NW7 ?_ ?aW7 ?bW7; (case FW7 => k_asm); (case NW7 => k_asm); (case aW7 => rfl); (case bW7 => rfl); k_whole; intro hq9 tq9 tkq9 Fq9 Nq9; (try k_sweep)) | (refine' storeU ?FW7 ?NW7 ?_ ?aW7 ?bW7; (case FW7 => k_asm); (case NW7 => k_asm); (case aW7 => rfl); (case bW7 => rfl); k_whole; intro hq9 tkq9 Fq9 Nq9; (try k_sweep)))))
  k_with "mine:pj" => (((rename (_ ∧ _) => z); first | exact z.1 | exact Zs z.1 | exact Zl z.1 | exact Zg z.1 | exact z.2 | exact Zs z.2 | exact Zl z.2 | exact Zg z.2 | exact z.2.1 | exact Zs z.2.1 | exact Zl z.2.1 | exact Zg z.2.1 | exact z.2.2 | exact Zs z.2.2 | exact Zl z.2.2 | exact Zg z.2.2 | exact z.2.2.1 | exact Zs z.2.2.1 | exact Zl z.2.2.1 | exact Zg z.2.2.1 | exact z.2.2.2 | exact Zs z.2.2.2 | exact Zl z.2.2.2 | exact Zg z.2.2.2 | exact z.2.2.2.1 | exact Zs z.2.2.2.1 | exact Zl z.2.2.2.1 | exact Zg z.2.2.2.1 | exact z.2.2.2.2 | exact Zs z.2.2.2.2 | exact Zl z.2.2.2.2 | exact Zg z.2.2.2.2 | exact z.2.2.2.2.1 | exact Zs z.2.2.2.2.1 | exact Zl z.2.2.2.2.1 | exact Zg z.2.2.2.2.1 | exact z.2.2.2.2.2 | exact Zs z.2.2.2.2.2 | exact Zl z.2.2.2.2.2 | exact Zg z.2.2.2.2.2 | exact z.2.2.2.2.2.1 | exact Zs z.2.2.2.2.2.1 | exact Zl z.2.2.2.2.2.1 | exact Zg z.2.2.2.2.2.1 | exact z.2.2.2.2.2.2 | exact Zs z.2.2.2.2.2.2 | exact Zl z.2.2.2.2.2.2 | exact Zg z.2.2.2.2.2.2 | exact z.2.2.2.2.2.2.1 | exact Zs z.2.2.2.2.2.2.1 | exact Zl z.2.2.2.2.2.2.1 | exact Zg z.2.2.2.2.2.2.1 | exact z.2.2.2.2.2.2.2 | exact Zs z.2.2.2.2.2.2.2 | exact Zl z.2.2.2.2.2.2.2 | exact Zg z.2.2.2.2.2.2.2 | exact z.2.2.2.2.2.2.2.1 | exact Zs z.2.2.2.2.2.2.2.1 | exact Zl z.2.2.2.2.2.2.2.1 | exact Zg z.2.2.2.2.2.2.2.1 | exact z.2.2.2.2.2.2.2.2 | exact Zs z.2.2.2.2.2.2.2.2 | exact Zl z.2.2.2.2.2.2.2.2 | exact Zg z.2.2.2.2.2.2.2.2 | exact z.2.2.2.2.2.2.2.2.1 | exact Zs z.2.2.2.2.2.2.2.2.1 | exact Zl z.2.2.2.2.2.2.2.2.1 | exact Zg z.2.2.2.2.2.2.2.2.1 | exact z.2.2.2.2.2.2.2.2.2.1 | exact Zs z.2.2.2.2.2.2.2.2.2.1 | exact Zl z.2.2.2.2.2.2.2.2.2.1 | exact Zg z.2.2.2.2.2.2.2.2.2.1 | exact z.2.2.2.2.2.2.2.2.2.2.1 | exact Zs z.2.2.2.2.2.2.2.2.2.2.1 | exact Zl z.2.2.2.2.2.2.2.2.2.2.1 | exact Zg z.2.2.2.2.2.2.2.2.2.2.1 | exact z.2.2.2.2.2.2.2.2.2.2.2.1 | exact Zs z.2.2.2.2.2.2.2.2.2.2.2.1 | exact Zl z.2.2.2.2.2.2.2.2.2.2.2.1 | exact Zg z.2.2.2.2.2.2.2.2.2.2.2.1 | exact z.2.2.2.2.2.2.2.2.2.2.2.2.1 | exact Zs z.2.2.2.2.2.2.2.2.2.2.2.2.1 | exact Zl z.2.2.2.2.2.2.2.2.2.2.2.2.1 | exact Zg z.2.2.2.2.2.2.2.2.2.2.2.2.1 | exact z.2.2.2.2.2.2.2.2.2.2.2.2.2.1 | exact Zs z.2.2.2.2.2.2.2.2.2.2.2.2.2.1 | exact Zl z.2.2.2.2.2.2.2.2.2.2.2.2.2.1 | exact Zg z.2.2.2.2.2.2.2.2.2.2.2.2.2.1 | (clear z; (k_extra "mine:pj"))))
  k_with "mine:ne" => (first | (with_reducible assumption) | exact Ne.symm (by with_reducible assumption) | exact ne_lt (by with_reducible assumption) | exact ne_gt (by with_reducible assumption) | exact ne_lt (lt_led (by with_reducible assumption) (by k_mem)) | exact ne_gt (lt_led (by with_reducible assumption) (by k_mem)) | ((try dsimp only); with_reducible (k_extra "mine:pj")) | assumption | exact Nat.ne_of_lt (Nat.lt_succ_self _) | exact Nat.ne_of_gt (Nat.lt_succ_self _) | (walk_say "K_NE OMEGA"; refine neN ?_; (try dsimp only); omega))
  k_with "mine:nes" => (first | (refine And.intro ?_ ?_ <;> (k_extra "mine:nes")) | k_ne)
  k_with "mine:in" => (first | (with_reducible exact List.mem_cons_self) | (with_reducible assumption) | ((with_reducible refine List.mem_cons_of_mem _ ?_); (k_extra "mine:in")) | exact List.mem_cons_self | (refine List.mem_cons_of_mem _ ?_; (k_extra "mine:in")) | (refine List.mem_append_left _ ?_; (k_extra "mine:in")) | (refine List.mem_append_right _ ?_; (k_extra "mine:in")))
  k_with "mine:sub" => (first | (with_reducible exact sub_id) | (with_reducible exact sub_nil) | ((with_reducible refine sub_cons ?haW7 ?hbW7); (case haW7 => (k_extra "mine:in")); (case hbW7 => (k_extra "mine:sub"))) | ((with_reducible refine sub_both ?haW7 ?hbW7); (case haW7 => (k_extra "mine:sub")); (case hbW7 => (k_extra "mine:sub"))) | ((with_reducible refine sub_skip ?_); (k_extra "mine:sub")) | ((with_reducible refine sub_right ?_); (k_extra "mine:sub")) | ((with_reducible refine sub_left ?_); (k_extra "mine:sub")) | (simp only [List.nil_append, List.cons_append]; (k_extra "mine:sub")))
  k_with "mine:keys" => (first | (k_dflt (exact keys_of rfl rfl)) | (walk_say "K_KEYS LONG"; repeat (first | exact True.intro | refine And.intro ⟨_, _, rfl, rfl⟩ ?_)))
  k_with "mine:enter0" => ((refine' enter0 ?k1W7 ?k2W7 ?k3W7 ?k4W7 ?kKW7 ?k8W7 ?k6W7 ?k7W7 ?k9W7 ?kBW7 ?_ ?c2W7 ?c3W7 ?c4W7 ?c5W7; (case kKW7 => assumption); (case k1W7 => k_asm); (case k2W7 => k_asm); (case k3W7 => k_asm); (case k4W7 => k_asm); (case k6W7 => k_is); (case k7W7 => k_is); (case k8W7 => ktr_room); (case k9W7 => exact BindsTo.of_eq rfl); (case c5W7 => decide); (case kBW7 => exact locs rfl); (case c2W7 => exact rfl); (case c3W7 => exact rfl); (case c4W7 => exact rfl); k_whole; intro Lq9 hq9 tkq9 Fq9 Nq9 Bq9 Xq9 Tq9; (try dsimp only); (try k_fold)))
  k_with "mine:ret" => (((all_goals (try dsimp only)); (all_goals (try k_unfold)); (all_goals (try dsimp only))))
  k_with "mine:same" => (first | exact fun _ _ => rfl | exact fun _ _ _ => rfl | exact same_fg | exact same_fgN | (refine same_upY ?_; (k_extra "mine:same")) | (refine same_up (by rfl) ?_; (k_extra "mine:same")) | (refine same_upN (by rfl) ?_; (k_extra "mine:same")) | (intros; (try dsimp only [forget, up]); (repeat' split); all_goals first | rfl | (exfalso; subst_vars; (rename (List.contains _ _ = false) => hz9); (revert hz9); decide) | (exfalso; (rename (List.contains _ _ = false) => hz9); (rename (List.contains _ _ = true) => hz8); rw [hz9] at hz8; exact Bool.noConfusion hz8) | (exfalso; subst_vars; contradiction)))
  trivial
open PySem PySem.W PySem.Calls PySem.Spec PyProof.Rows
theorem words_S9_1 : True := by
  k_with "execs cons" => ((k_here; (with_reducible refine execs_let ?_); intro qk))
  trivial
theorem name_ledJ {h₀ h : Heap} {L f cc a3 a2 a1 P : Addr} {fo oc o3 o2 o1 Po : Obj} {C : Prop} (_N : News h₀ L h [(f, fo), (cc, oc), (a3, o3), (a2, o2), (a1, o1), (P, Po)])
    (k : ∀ f' cc' oc' o3' o2' o1', f' = f → cc' = cc → oc' = oc → o3' = o3 → o2' = o2 → o1' = o1 → C) : C := k _ _ _ _ _ _ rfl rfl rfl rfl rfl rfl
theorem name_ledJ2 {h₀ h : Heap} {L f cc a3 a2 a1 P : Addr} {fo oc o3 o2 o1 Po : Obj} {C : Prop} (_N : News h₀ L h [(f, fo), (a3, o3), (a2, o2), (a1, o1), (P, Po), (cc, oc)])
    (k : ∀ f' o3' o2' o1', f' = f → o3' = o3 → o2' = o2 → o1' = o1 → C) : C := k _ _ _ _ rfl rfl rfl rfl
section
variable {w : World} {A₀ : Around} {s : Shared} {base h₀ : Heap} {outer : List Env} {L : Addr} {m mg mb : Str → Option Value} {p : Program} {loose : List Str} {mean : ExcName → Option Value}
  {dp un : Nat} {gd : Option (List Code)} {cn : Str} {cs : Scope} {a : Addr} {ccd : Value} {cl : List (Str × Addr)}

set_option maxHeartbeats 4000000 in
theorem spec_d2i (B : Below A₀ base outer h₀) (F : Fr h₀ L s.heap m) (X : (hd.heap_1 w.params).In h₀) (T : Top p loose mean mg mb h₀) (hk : cs.kind = .function) (hd : dp + 20 < recursionLimit)
    {ps : Array Value} {ex : List (Addr × Obj)} (hT : TabSt 88 "_digits2int.<locals>.inner" ps ex)
    (N : News h₀ L s.heap ((45, tabObj ps) :: ex)) (hC : CodeHd h₀ 49 45) {l : Addr} {vals : List Value} {ds : List Int} {n : Nat} {tn : Tok} (hl : s.heap.IsList l vals.toArray) (hlx : l ∉ ((45, tabObj ps) :: ex).map (·.1)) (hI : IntsAre vals ds)
    (hn : 1 ≤ n ∧ n ≤ 9) (hlen : 1 ≤ ds.length ∧ ds.length ≤ 17) (hnn : ∀ x ∈ ds, 0 ≤ x) (hmax : dval n ds < 2 ^ 62) :
    codeAny (model Challenge.rw_sn0075_01.row.prog w) (ktrTop dp un gd cn cs L a ccd cl outer) (.call (.ref 50) ⟨[.ref l, .int n tn], []⟩)
      (RetX (((45, tabObj ps) :: ex).map (·.1)) s (fun r h' => (∃ t, r = .int (dval n ds) t) ∧ ∃ ps' ex', TabHit 88 "_digits2int.<locals>.inner" ps' ex' ∧ (∀ q ∈ (45, tabObj ps') :: ex', h'.get? q.1 = some q.2) ∧ (∀ q ∈ ex', q ∈ ex ∨ s.heap.get? q.1 = none) ∧ (ex ≠ [] → ex' = ex))) s := by
  have hni : (0 : Int) < (n : Int) := by omega
  have hvl := hI.length
  revert X; k_fill; intro X
  rcases hT with ⟨rfl, rfl⟩ | ⟨c, oc, vs, t, rfl, rfl, hoc, hoc1⟩
  · k_dflt (refine' enterXC (news := [(45, tabObj #[])]) B F X T N hk ?k8 ?k6 ?k7 ?k9 ?kB ?kD ?_ ?c2 ?c3 ?c4; (case k6 => k_is); (case k7 => k_is); (case k8 => ktr_room); (case k9 => exact BindsTo.of_eq rfl); (case kB => exact rfl); (case kD => decide +kernel); (case c2 => exact rfl); (case c3 => exact rfl); (case c4 => exact rfl); k_whole; intro g L' h' tk' cells' hg st1 F' N' Y' B' X' T' l1; (try k_lt l1); k_cells Y'; (rename_i oA oB oC dA dB dC); (try simp only [List.cons_append, List.nil_append] at N'); (have hC1 := CodeHd.keeps hC st1); (try dsimp only); (try k_fold))
    have hlg : g.IsList l vals.toArray := hl.at fun o e => hg l o hlx e
    have dC1 : oC.data = Data.cell (some (Value.ref l)) := dC
    have dB1 : oB.data = Data.cell (some (Value.int (n : Int) tn)) := dB
    k_steps
    (rename Fr _ _ _ _ => kF); (rename News _ _ _ _ => kN)
    refine name_ledJ kN ?_
    intro f cc oc o3 o2 o1 e1 e2 e3 e4 e5 e6
    subst e1 e2 e3 e4 e5 e6
    (rename _[1]? = some _ => hO1)
    (rename oc.data = _ => hO)
    have N1 : News g L' _ (ledJ f cc (L' + 1 + 1) (L' + 1 + 1 + 1) (L' + 1) _ oc o2 o3 o1) := fun q hq => kN q (by
      simp only [ledJ, List.mem_cons, List.not_mem_nil, or_false] at hq
      rcases hq with rfl | rfl | rfl | rfl | rfl <;> k_mem)
    have hTB : News g L' _ [((45 : Addr), tabObj #[rawInt 88, rawInt 4, Value.ref cc])] := fun q hq => kN q (by rw [List.mem_singleton.mp hq]; k_mem)
    refine use_specX (news := ledJ f cc (L' + 1 + 1) (L' + 1 + 1 + 1) (L' + 1) _ oc o2 o3 o1 ++ [((45 : Addr), tabObj #[rawInt 88, rawInt 4, Value.ref cc])]) (rest := [((45 : Addr), tabObj #[rawInt 88, rawInt 4, Value.ref cc])]) kF (News.append N1 hTB) (apart_of N1) ?hr (innerJ_spec (n := n) rfl hO hO1 dB1 (by assumption) dC1 hn hI hlen.2 hnn hmax ds.length _ _ _ _ _ _ _ _ _ _ _ _ _ _ _ B' kF X' T' rfl ?hdep hlg 0 ds.length _ _ _ _ N1 rfl rfl (by omega) (by omega) (by omega)) ?_
    case hr =>
      intro q hq
      rw [List.mem_singleton.mp hq]
      refine ⟨List.mem_append_right _ (List.mem_singleton.mpr rfl), ?_⟩
      simp only [ledJ, List.map_cons, List.map_nil, List.mem_cons, List.not_mem_nil, or_false, not_or]
      refine ⟨neN (by k_ne), neN (by k_ne), neN (by k_ne), neN (by k_ne), neN (by k_ne)⟩
    case hdep => ktr_room
    rintro v h3 tk3 F3 N3 E3 ⟨⟨tv, rfl⟩, hq3⟩
    have N4 := News.append (news_turned (led' := ledJ f cc (L' + 1 + 1) (L' + 1 + 1 + 1) (L' + 1) _ oc o2 o3 o1) N1 rfl hq3) N3
    have hc9 := fresh_back (D := cc) hg (by simp only [List.map_cons, List.map_nil, List.mem_cons, List.not_mem_nil, or_false]; exact neN (by k_ne)) (kN (cc, _) (by k_mem)).2.2
    clear kF kN N1 N3 hTB
    unfold ledJ at N4
    simp only [List.cons_append, List.nil_append] at N4
    k_steps
    (k_extra "mine:ret")
    rw [List.drop_zero, List.take_length]
    refine retX hg F3 ⟨⟨_, rfl⟩, #[rawInt 88, rawInt 4, Value.ref cc], [(cc, oc)], ⟨cc, oc, _, _, rfl, rfl, hO, hO1⟩, fun q hq => ?_, fun q hq => .inr ?_, fun h => absurd rfl h⟩
    · rcases List.mem_cons.mp hq with rfl | hq
      · exact (N4 _ (by k_mem)).1
      · rw [List.mem_singleton.mp hq]; exact (N4 _ (by k_mem)).1
    · rw [List.mem_singleton.mp hq]; exact hc9
  · have hc38 : @Ne Nat c 45 := by
      intro e
      subst e
      have h1 := (N (45, _) (List.Mem.head _)).1
      have h2 := (N (45, oc) (List.Mem.tail _ (List.Mem.head _))).1
      rw [h1] at h2
      cases h2
      cases hoc
      simp [rawInt] at hoc1
    k_dflt (refine' enterXC (news := [(45, tabObj #[rawInt 88, rawInt 4, Value.ref c]), (c, oc)]) B F X T N hk ?k8 ?k6 ?k7 ?k9 ?kB ?kD ?_ ?c2 ?c3 ?c4; (case k6 => k_is); (case k7 => k_is); (case k8 => ktr_room); (case k9 => exact BindsTo.of_eq rfl); (case kB => exact rfl); (case kD => decide +kernel); (case c2 => exact rfl); (case c3 => exact rfl); (case c4 => exact rfl); k_whole; intro g L' h' tk' cells' hg st1 F' N' Y' B' X' T' l1; (try k_lt l1); k_cells Y'; (rename_i oA oB oC dA dB dC); (try simp only [List.cons_append, List.nil_append] at N'); (have hC1 := CodeHd.keeps hC st1); (try dsimp only); (try k_fold))
    have hlg : g.IsList l vals.toArray := hl.at fun o e => hg l o hlx e
    have dC1 : oC.data = Data.cell (some (Value.ref l)) := dC
    have dB1 : oB.data = Data.cell (some (Value.int (n : Int) tn)) := dB
    k_steps
    (rename Fr _ _ _ _ => kF); (rename News _ _ _ _ => kN)
    refine name_ledJ2 kN ?_
    intro f o3 o2 o1 e1 e4 e5 e6
    subst e1 e4 e5 e6
    have N1 : News g L' _ (ledJ f c (L' + 1 + 1) (L' + 1 + 1 + 1) (L' + 1) _ oc o2 o3 o1) := fun q hq => kN q (by
      simp only [ledJ, List.mem_cons, List.not_mem_nil, or_false] at hq
      rcases hq with rfl | rfl | rfl | rfl | rfl <;> k_mem)
    have hTB : News g L' _ [((45 : Addr), tabObj #[rawInt 88, rawInt 4, Value.ref c])] := fun q hq => kN q (by rw [List.mem_singleton.mp hq]; k_mem)
    refine use_specX (news := ledJ f c (L' + 1 + 1) (L' + 1 + 1 + 1) (L' + 1) _ oc o2 o3 o1 ++ [((45 : Addr), tabObj #[rawInt 88, rawInt 4, Value.ref c])]) (rest := [((45 : Addr), tabObj #[rawInt 88, rawInt 4, Value.ref c])]) kF (News.append N1 hTB) (apart_of N1) ?hr (innerJ_spec (n := n) (tcc := t) rfl hoc ?hq1 dB1 (by assumption) dC1 hn hI hlen.2 hnn hmax ds.length _ _ _ _ _ _ _ _ _ _ _ _ _ _ _ B' kF X' T' rfl ?hdep hlg 0 ds.length _ _ _ _ N1 rfl rfl (by omega) (by omega) (by omega)) ?_
    case hr =>
      intro q hq
      rw [List.mem_singleton.mp hq]
      refine ⟨List.mem_append_right _ (List.mem_singleton.mpr rfl), ?_⟩
      simp only [ledJ, List.map_cons, List.map_nil, List.mem_cons, List.not_mem_nil, or_false, not_or]
      refine ⟨neN (by k_ne), neN (by k_ne), neN (by k_ne), neN (by k_ne), neN (by k_ne)⟩
    case hq1 => exact hoc1
    case hdep => ktr_room
    rintro v h3 tk3 F3 N3 E3 ⟨⟨tv, rfl⟩, hq3⟩
    have N4 := News.append (news_turned (led' := ledJ f c (L' + 1 + 1) (L' + 1 + 1 + 1) (L' + 1) _ oc o2 o3 o1) N1 rfl hq3) N3
    clear kF kN N1 N3 hTB
    unfold ledJ at N4
    simp only [List.cons_append, List.nil_append] at N4
    k_steps
    (k_extra "mine:ret")
    rw [List.drop_zero, List.take_length]
    refine retX hg F3 ⟨⟨_, rfl⟩, #[rawInt 88, rawInt 4, Value.ref c], [(c, oc)], ⟨c, oc, _, _, rfl, rfl, hoc, hoc1⟩, fun q hq => ?_, fun q hq => .inl hq, fun _ => rfl⟩
    · rcases List.mem_cons.mp hq with rfl | hq
      · exact (N4 _ (by k_mem)).1
      · rw [List.mem_singleton.mp hq]; exact (N4 _ (by k_mem)).1
end
end PartS9
section PartS10
theorem base_S10 : True := by
  w_top off
  k_with_none
  k_with "mine:step" => ((first | (k_unfold; (try dsimp only)) | (k_end; wrow_close) | walk1 | (dsimp only; walk1) | (leave1; walk_say "STEP leave1"; try dsimp only) | fail "no step"))
  k_with "storeName" => ((k_here; k_dflt (first | (refine' storeI ?FW7 ?NW7 ?_ ?aW7 ?bW7; (case FW7 => k_asm); (case NW7 => k_asm); (case aW7 => rfl); (case bW7 => rfl); k_whole; intro hq9 tq9 tkq9 Fq9 Nq9; (try k_sweep)) | (refine' storeU ?FW7 ?NW7 ?_ ?aW7 ?bW7; (case FW7 => k_asm); (case NW7 => k_asm); (case aW7 => rfl); (case bW7 => rfl); k_whole; intro hq9 tkq9 Fq9 Nq9; (try k_sweep)))))
  k_with "mine:pj" => (((rename (_ ∧ _) => z); first | exact z.1 | exact Zs z.1 | exact Zl z.1 | exact Zg z.1 | exact z.2 | exact Zs z.2 | exact Zl z.2 | exact Zg z.2 | exact z.2.1 | exact Zs z.2.1 | exact Zl z.2.1 | exact Zg z.2.1 | exact z.2.2 | exact Zs z.2.2 | exact Zl z.2.2 | exact Zg z.2.2 | exact z.2.2.1 | exact Zs z.2.2.1 | exact Zl z.2.2.1 | exact Zg z.2.2.1 | exact z.2.2.2 | exact Zs z.2.2.2 | exact Zl z.2.2.2 | exact Zg z.2.2.2 | exact z.2.2.2.1 | exact Zs z.2.2.2.1 | exact Zl z.2.2.2.1 | exact Zg z.2.2.2.1 | exact z.2.2.2.2 | exact Zs z.2.2.2.2 | exact Zl z.2.2.2.2 | exact Zg z.2.2.2.2 | exact z.2.2.2.2.1 | exact Zs z.2.2.2.2.1 | exact Zl z.2.2.2.2.1 | exact Zg z.2.2.2.2.1 | exact z.2.2.2.2.2 | exact Zs z.2.2.2.2.2 | exact Zl z.2.2.2.2.2 | exact Zg z.2.2.2.2.2 | exact z.2.2.2.2.2.1 | exact Zs z.2.2.2.2.2.1 | exact Zl z.2.2.2.2.2.1 | exact Zg z.2.2.2.2.2.1 | exact z.2.2.2.2.2.2 | exact Zs z.2.2.2.2.2.2 | exact Zl z.2.2.2.2.2.2 | exact Zg z.2.2.2.2.2.2 | exact z.2.2.2.2.2.2.1 | exact Zs z.2.2.2.2.2.2.1 | exact Zl z.2.2.2.2.2.2.1 | exact Zg z.2.2.2.2.2.2.1 | exact z.2.2.2.2.2.2.2 | exact Zs z.2.2.2.2.2.2.2 | exact Zl z.2.2.2.2.2.2.2 | exact Zg z.2.2.2.2.2.2.2 | exact z.2.2.2.2.2.2.2.1 | exact Zs z.2.2.2.2.2.2.2.1 | exact Zl z.2.2.2.2.2.2.2.1 | exact Zg z.2.2.2.2.2.2.2.1 | exact z.2.2.2.2.2.2.2.2 | exact Zs z.2.2.2.2.2.2.2.2 | exact Zl z.2.2.2.2.2.2.2.2 | exact Zg z.2.2.2.2.2.2.2.2 | exact z.2.2.2.2.2.2.2.2.1 | exact Zs z.2.2.2.2.2.2.2.2.1 | exact Zl z.2.2.2.2.2.2.2.2.1 | exact Zg z.2.2.2.2.2.2.2.2.1 | exact z.2.2.2.2.2.2.2.2.2.1 | exact Zs z.2.2.2.2.2.2.2.2.2.1 | exact Zl z.2.2.2.2.2.2.2.2.2.1 | exact Zg z.2.2.2.2.2.2.2.2.2.1 | exact z.2.2.2.2.2.2.2.2.2.2.1 | exact Zs z.2.2.2.2.2.2.2.2.2.2.1 | exact Zl z.2.2.2.2.2.2.2.2.2.2.1 | exact Zg z.2.2.2.2.2.2.2.2.2.2.1 | exact z.2.2.2.2.2.2.2.2.2.2.2.1 | exact Zs z.2.2.2.2.2.2.2.2.2.2.2.1 | exact Zl z.2.2.2.2.2.2.2.2.2.2.2.1 | exact Zg z.2.2.2.2.2.2.2.2.2.2.2.1 | exact z.2.2.2.2.2.2.2.2.2.2.2.2.1 | exact Zs z.2.2.2.2.2.2.2.2.2.2.2.2.1 | exact Zl z.2.2.2.2.2.2.2.2.2.2.2.2.1 | exact Zg z.2.2.2.2.2.2.2.2.2.2.2.2.1 | exact z.2.2.2.2.2.2.2.2.2.2.2.2.2.1 | exact Zs z.2.2.2.2.2.2.2.2.2.2.2.2.2.1 | exact Zl z.2.2.2.2.2.2.2.2.2.2.2.2.2.1 | exact Zg z.2.2.2.2.2.2.2.2.2.2.2.2.2.1 | (clear z; (k_extra "mine:pj"))))
  k_with "mine:ne" => (first | (with_reducible assumption) | exact Ne.symm (by with_reducible assumption) | exact ne_lt (by with_reducible assumption) | exact ne_gt (by with_reducible assumption) | exact ne_lt (lt_led (by with_reducible assumption) (by k_mem)) | exact ne_gt (lt_led (by with_reducible assumption) (by k_mem)) | ((try dsimp only); with_reducible (k_extra "mine:pj")) | assumption | exact Nat.ne_of_lt (Nat.lt_succ_self _) | exact Nat.ne_of_gt (Nat.lt_succ_self _) | (walk_say "K_NE OMEGA"; refine neN ?_; (try dsimp only); omega))
  k_with "mine:nes" => (first | (refine And.intro ?_ ?_ <;> (k_extra "mine:nes")) | k_ne)
  k_with "mine:in" => (first | (with_reducible exact List.mem_cons_self) | (with_reducible assumption) | ((with_reducible refine List.mem_cons_of_mem _ ?_); (k_extra "mine:in")) | exact List.mem_cons_self | (refine List.mem_cons_of_mem _ ?_; (k_extra "mine:in")) | (refine List.mem_append_left _ ?_; (k_extra "mine:in")) | (refine List.mem_append_right _ ?_; (k_extra "mine:in")))
  k_with "mine:sub" => (first | (with_reducible exact sub_id) | (with_reducible exact sub_nil) | ((with_reducible refine sub_cons ?haW7 ?hbW7); (case haW7 => (k_extra "mine:in")); (case hbW7 => (k_extra "mine:sub"))) | ((with_reducible refine sub_both ?haW7 ?hbW7); (case haW7 => (k_extra "mine:sub")); (case hbW7 => (k_extra "mine:sub"))) | ((with_reducible refine sub_skip ?_); (k_extra "mine:sub")) | ((with_reducible refine sub_right ?_); (k_extra "mine:sub")) | ((with_reducible refine sub_left ?_); (k_extra "mine:sub")) | (simp only [List.nil_append, List.cons_append]; (k_extra "mine:sub")))
  k_with "mine:keys" => (first | (k_dflt (exact keys_of rfl rfl)) | (walk_say "K_KEYS LONG"; repeat (first | exact True.intro | refine And.intro ⟨_, _, rfl, rfl⟩ ?_)))
  k_with "mine:enter0" => ((refine' enter0 ?k1W7 ?k2W7 ?k3W7 ?k4W7 ?kKW7 ?k8W7 ?k6W7 ?k7W7 ?k9W7 ?kBW7 ?_ ?c2W7 ?c3W7 ?c4W7 ?c5W7; (case kKW7 => assumption); (case k1W7 => k_asm); (case k2W7 => k_asm); (case k3W7 => k_asm); (case k4W7 => k_asm); (case k6W7 => k_is); (case k7W7 => k_is); (case k8W7 => ktr_room); (case k9W7 => exact BindsTo.of_eq rfl); (case c5W7 => decide); (case kBW7 => exact locs rfl); (case c2W7 => exact rfl); (case c3W7 => exact rfl); (case c4W7 => exact rfl); k_whole; intro Lq9 hq9 tkq9 Fq9 Nq9 Bq9 Xq9 Tq9; (try dsimp only); (try k_fold)))
  k_with "mine:ret" => (((all_goals (try dsimp only)); (all_goals (try k_unfold)); (all_goals (try dsimp only))))
  k_with "mine:same" => (first | exact fun _ _ => rfl | exact fun _ _ _ => rfl | exact same_fg | exact same_fgN | (refine same_upY ?_; (k_extra "mine:same")) | (refine same_up (by rfl) ?_; (k_extra "mine:same")) | (refine same_upN (by rfl) ?_; (k_extra "mine:same")) | (intros; (try dsimp only [forget, up]); (repeat' split); all_goals first | rfl | (exfalso; subst_vars; (rename (List.contains _ _ = false) => hz9); (revert hz9); decide) | (exfalso; (rename (List.contains _ _ = false) => hz9); (rename (List.contains _ _ = true) => hz8); rw [hz9] at hz8; exact Bool.noConfusion hz8) | (exfalso; subst_vars; contradiction)))
  trivial
open PySem PySem.W PySem.Calls PySem.Spec PyProof.Rows
noncomputable abbrev tupObj (xs : Array Value) : Obj := { cls := .type "tuple", data := .seq xs }
section
variable {w : World} {A₀ : Around} {s : Shared} {base h₀ : Heap} {outer : List Env} {L : Addr} {m mg mb : Str → Option Value} {p : Program} {loose : List Str} {mean : ExcName → Option Value}
  {dp un : Nat} {gd : Option (List Code)} {cn : Str} {cs : Scope} {a : Addr} {ccd : Value} {cl : List (Str × Addr)}

set_option maxHeartbeats 4000000 in
theorem spec_div2 (B : Below A₀ base outer h₀) (F : Fr h₀ L s.heap m) (X : (hd.heap_1 w.params).In h₀) (T : Top p loose mean mg mb h₀) (hk : cs.kind = .function) (hd : dp + 2 < recursionLimit)
    {x b n : Int} {t1 t2 t3 : Tok} (hx : 0 ≤ x ∧ x < 2 ^ 40) (hb : 0 < b ∧ b < 2 ^ 20) (hn : 0 ≤ n ∧ n < 100) (hbits : (Builtin.Int.intBits x : Int) ≤ 100) :
    codeAny (model Challenge.rw_sn0075_01.row.prog w) (ktrTop dp un gd cn cs L a ccd cl outer) (.call (.ref 29) ⟨[.int x t1, .int b t2, .int n t3], []⟩)
      (RetP s (fun r h' => ∃ D t1 t2, r = .ref D ∧ s.heap.get? D = none ∧ h'.get? D = some (tupObj #[.int (x.fdiv b) t1, .int (x.fmod b) t2]))) s := by
  revert X; k_fill; intro X
  k_dflt (k_extra "mine:enter0")
  k_steps
  (k_extra "mine:ret")
  (rename Fr _ _ _ _ => kF); (rename News _ _ _ _ => kN)
  exact retP kF ⟨_, _, _, rfl, (kN _ (List.Mem.head _)).2.2, (kN _ (List.Mem.head _)).1⟩
end
end PartS10
section PartDg
open PySem PySem.W PySem.Calls PySem.Spec PyProof.Rows

noncomputable def hval (n : Nat) (l : List Int) : Int := l.foldl (fun acc d => acc * 2 ^ n + d) 0
theorem hval_snoc (n : Nat) (l : List Int) (d : Int) : hval n (l ++ [d]) = hval n l * 2 ^ n + d := by unfold hval; rw [List.foldl_append]; rfl
theorem dval_rev (n : Nat) (l : List Int) : dval n l.reverse = hval n l := by
  unfold hval
  rw [← List.foldr_reverse]
  generalize l.reverse = r
  induction r with
  | nil => rfl
  | cons d r ih => rw [List.foldr_cons, ← ih]; rfl
theorem hval_nonneg (n : Nat) (l : List Int) (h : ∀ x ∈ l, 0 ≤ x) : 0 ≤ hval n l := by
  rw [← dval_rev]
  exact dval_nonneg n _ fun x hx => h x (List.mem_reverse.mp hx)
/-- the number of the first i digits from above -/
noncomputable def topn (n k x i : Nat) : Nat := if i = 0 then 0 else x / 2 ^ (n * (k - i))
theorem digs_get (n : Nat) : ∀ k x j, j < k → (digs n k x)[j]? = some ((if j + 1 = k then x / 2 ^ (n * j) else (x / 2 ^ (n * j)) % 2 ^ n : Nat) : Int)
  | 0, _, _, h => absurd h (Nat.not_lt_zero _)
  | 1, x, j, h => by
    have : j = 0 := by omega
    subst this
    simp [digs]
  | k + 2, x, 0, _ => by
    rw [digs_succ n (k + 1) x (by omega), if_neg (by omega)]
    simp
  | k + 2, x, j + 1, h => by
    rw [digs_succ n (k + 1) x (by omega), List.getElem?_cons_succ, digs_get n (k + 1) _ j (by omega), Nat.div_div_eq_div_mul, ← Nat.pow_add]
    have e : n + n * j = n * (j + 1) := by rw [Nat.mul_succ]; omega
    rw [e]
    by_cases q : j + 1 = k + 1
    · rw [if_pos q, if_pos (by omega)]
    · rw [if_neg q, if_neg (by omega)]
theorem topn_succ (n k x i : Nat) (hi : i < k) : ∃ d : Nat, (digs n k x)[k - 1 - i]? = some (d : Int) ∧ topn n k x (i + 1) = topn n k x i * 2 ^ n + d ∧ d ≤ x := by
  refine ⟨_, digs_get n k x (k - 1 - i) (by omega), ?_, ?_⟩
  · unfold topn
    rw [if_neg (by omega)]
    have e : k - 1 - i = k - (i + 1) := by omega
    rw [e]
    by_cases q : i = 0
    · subst q
      rw [if_pos rfl, if_pos (by omega)]; omega
    · rw [if_neg q, if_neg (by omega)]
      have e2 : k - i = (k - (i + 1)) + 1 := by omega
      rw [e2, Nat.mul_succ, Nat.pow_add, ← Nat.div_div_eq_div_mul, Nat.mul_comm (_ / _) (2 ^ n)]
      exact (Nat.div_add_mod _ _).symm
  · split
    · exact Nat.div_le_self _ _
    · exact Nat.le_trans (Nat.mod_le _ _) (Nat.div_le_self _ _)
theorem topn_all (n k x : Nat) (hk : 1 ≤ k) : topn n k x k = x := by
  unfold topn
  rw [if_neg (by omega)]; simp
theorem topn_zero (n k x : Nat) : topn n k x 0 = 0 := rfl
theorem bits_pos {b : Nat} (hb : 0 < b ∧ b < 512) : 1 ≤ Builtin.Int.intBits (b : Int) ∧ Builtin.Int.intBits (b : Int) ≤ 9 ∧ b < 2 ^ Builtin.Int.intBits (b : Int) := by
  refine ⟨?_, intBits_le_iff.mpr (by show b < 512; omega), ?_⟩
  · apply Nat.pos_of_ne_zero
    intro e
    have := (intBits_le_iff (m := 0) (x := (b : Int))).mp (Nat.le_of_eq e)
    have h2 : b < 2 ^ 0 := this
    omega
  · exact (intBits_le_iff (x := (b : Int))).mp (Nat.le_refl _)
theorem dmp_step {qs : List Int} {n k x i : Nat} {b d : Nat} {r : Int} (hb : 0 < b) (hr0 : 0 ≤ r) (h1 : (topn n k x i : Int) = b * hval n qs + r) (h2 : topn n k x (i + 1) = topn n k x i * 2 ^ n + d) :
    0 ≤ (r * 2 ^ n + (d : Int)).fdiv (b : Int) ∧ (topn n k x (i + 1) : Int) = b * hval n (qs ++ [(r * 2 ^ n + (d : Int)).fdiv (b : Int)]) + (r * 2 ^ n + (d : Int)).fmod (b : Int) ∧ 0 ≤ (r * 2 ^ n + (d : Int)).fmod (b : Int) ∧ (r * 2 ^ n + (d : Int)).fmod (b : Int) < b := by
  have hbi : (0 : Int) < (b : Int) := by omega
  have hpw0 : (0 : Int) ≤ 2 ^ n := Int.le_of_lt (Int.pow_pos (by decide))
  have ha : 0 ≤ r * 2 ^ n + (d : Int) := by have := Int.mul_nonneg hr0 hpw0; omega
  rw [Int.fdiv_eq_ediv_of_nonneg _ (Int.le_of_lt hbi), Int.fmod_eq_emod_of_nonneg _ (Int.le_of_lt hbi)]
  refine ⟨Int.ediv_nonneg ha (Int.le_of_lt hbi), ?_, Int.emod_nonneg _ (by omega), Int.emod_lt_of_pos _ hbi⟩
  rw [hval_snoc]
  have h3 := Int.mul_ediv_add_emod (r * 2 ^ n + (d : Int)) b
  have h4 : ((topn n k x (i + 1) : Nat) : Int) = (topn n k x i : Int) * 2 ^ n + d := by rw [h2, Int.natCast_add, Int.natCast_mul, Int.natCast_pow]; rfl
  rw [h4, h1]
  generalize (r * 2 ^ n + (d : Int)) / b = q at *
  generalize (r * 2 ^ n + (d : Int)) % b = r2 at *
  rw [Int.add_mul, Int.mul_add, Int.mul_assoc]
  omega
theorem dmp_end {x b : Nat} {q r : Int} (hb : 0 < b) (h : (x : Int) = b * q + r) (h0 : 0 ≤ r) (h1 : r < b) : q = ((x / b : Nat) : Int) ∧ r = ((x % b : Nat) : Int) := by
  have hbi : (0 : Int) < (b : Int) := by omega
  have e1 : (x : Int) / b = q := by rw [h, Int.add_comm, Int.add_mul_ediv_left _ _ (by omega), Int.ediv_eq_zero_of_lt h0 h1]; omega
  have e2 : (x : Int) % b = r := by rw [h, Int.add_comm, Int.add_mul_emod_self_left, Int.emod_eq_of_lt h0 h1]
  exact ⟨by rw [← e1]; rfl, by rw [← e2]; rfl⟩
theorem fresh_chain2 {X : List Addr} {news : List (Addr × Obj)} {h g h' : Heap} {D L : Addr} {m : Str → Option Value} (hg : ExtX X h g) (F : Fr g L h' m) (N : News g L h' news) (hX : ∀ a ∈ X, a ∈ news.map (·.1)) (e : h'.get? D = none) : h.get? D = none := by
  cases q : h.get? D with
  | none => rfl
  | some o =>
    by_cases hD : D ∈ X
    · obtain ⟨p, hp, rfl⟩ := List.mem_map.mp (hX D hD)
      rw [(N p hp).1] at e; cases e
    · rw [F.keep _ _ (hg D o hD q)] at e; cases e
theorem nameQ {h₀ h : Heap} {L t D Q : Addr} {to dob : Obj} {xs : Array Value} {v : Value} {k : Nat} {r : List (Addr × Obj)} {C : Prop} (_N : News h₀ L h ((t, to) :: (D, dob) :: (Q, W.listOf (xs.push v) k) :: r)) (f : ∀ v', v' = v → C) : C := f _ rfl
theorem fresh_sep {h₀ h : Heap} {L D : Addr} {news : List (Addr × Obj)} (N : News h₀ L h news) (hD : h.get? D = none) : ∀ p ∈ news, @Ne Nat p.1 D := fun p hp e => by
  have h1 := (N p hp).1
  rw [show p.1 = D from e, hD] at h1; cases h1
end PartDg
section PartS11
open PySem PySem.W PySem.Calls PySem.Spec PyProof.Rows
theorem words_S11_1 : True := by
  k_with "InvEndN" => ((with_reducible refine stay ?_))
  k_with "execs cons" => ((k_here; (with_reducible refine execs_let ?_); intro qk))
  trivial

section
variable {w : World} {A₀ : Around} {s : Shared} {base h₀ : Heap} {outer : List Env} {L : Addr} {m mg mb : Str → Option Value} {p : Program} {loose : List Str} {mean : ExcName → Option Value}
  {dp un : Nat} {gd : Option (List Code)} {cn : Str} {cs : Scope} {a : Addr} {ccd : Value} {cl : List (Str × Addr)}
theorem words_S11_2 : True := by
  k_with "call ref" => ((k_here; k_dflt ( (refine' use_spec ?FW7 ?NW7 (spec_div2 ?BW7 ?F1W7 ?XW7 ?TW7 rfl ?dW7 ?hxW7 ?hbW7 ?hnW7 ?hbitsW7) ?_); (case FW7 => k_asm); (case NW7 => k_asm); (case BW7 => k_asm); (case F1W7 => k_asm); (case XW7 => k_asm); (case TW7 => k_asm); (case dW7 => ktr_room); (case hxW7 => assumption); (case hbW7 => assumption); (case hnW7 => assumption); (case hbitsW7 => assumption); (intro vq9 hq9 tkq9 Fq9 Nq9 Eq9 qq9; obtain ⟨Dt, t1q9, t2q9, qq9, hDt, hgt⟩ := qq9; subst qq9; (have hsepq9 := fresh_sep (by assumption) hDt); (simp only [List.mem_cons, forall_eq_or_imp] at hsepq9); (replace Nq9 := news_cons Nq9 hgt (fresh_of (by assumption) hDt).1 (fresh_of (by assumption) hDt).2)); (try k_sweep))))
  k_with "exec For Name Call cons nil" => (((rename Fr _ _ _ _ => lFq9); (with_unfolding_all refine' For_turns lFq9 ?_); k_whole))
  trivial

set_option maxHeartbeats 4000000 in
theorem spec_dmp (B : Below A₀ base outer h₀) (F : Fr h₀ L s.heap m) (X : (hd.heap_1 w.params).In h₀) (T : Top p loose mean mg mb h₀) (hk : cs.kind = .function) (hd : dp + 30 < recursionLimit) (hu : un + 300 < cLine)
    {ps ps2 : Array Value} {ex ex2 : List (Addr × Obj)} (hT : TabSt 73 "_int2digits.<locals>.inner" ps ex) (hT2 : TabSt 88 "_digits2int.<locals>.inner" ps2 ex2)
    (N : News h₀ L s.heap ((38, tabObj ps) :: ex ++ (45, tabObj ps2) :: ex2)) (hC : CodeHd h₀ 42 38) (hC2 : CodeHd h₀ 49 45) (hsep : ∀ p ∈ (38, tabObj ps) :: ex, p.1 ∉ ((45, tabObj ps2) :: ex2).map (·.1))
    {x b : Nat} {tx tb : Tok} (hx : 0 < x ∧ x < 2 ^ 17) (hb : 0 < b ∧ b < 512)
    {k : Nat} (hk1 : 1 ≤ k ∧ k ≤ 17) (hkk : ((Builtin.Int.intBits (x : Int) : Int) + (Builtin.Int.intBits (b : Int) : Nat) - 1).fdiv (Builtin.Int.intBits (b : Int) : Nat) = (k : Int)) :
    codeAny (model Challenge.rw_sn0075_01.row.prog w) (ktrTop dp un gd cn cs L a ccd cl outer) (.call (.ref 57) ⟨[.int x tx, .int b tb], []⟩)
      (RetX (((38, tabObj ps) :: ex ++ (45, tabObj ps2) :: ex2).map (·.1)) s (fun r h' => ∃ D t1 t2 ps' ex' ps2' ex2', r = .ref D ∧ s.heap.get? D = none ∧ h'.get? D = some (tupObj #[.int ((x / b : Nat) : Int) t1, .int ((x % b : Nat) : Int) t2]) ∧
        TabHit 73 "_int2digits.<locals>.inner" ps' ex' ∧ TabHit 88 "_digits2int.<locals>.inner" ps2' ex2' ∧ (∀ q ∈ (38, tabObj ps') :: ex' ++ (45, tabObj ps2') :: ex2', h'.get? q.1 = some q.2) ∧ (∀ q ∈ ex', q ∈ ex ∨ s.heap.get? q.1 = none) ∧ (ex ≠ [] → ex' = ex) ∧ (∀ q ∈ ex2', q ∈ ex2 ∨ s.heap.get? q.1 = none) ∧ (ex2 ≠ [] → ex2' = ex2))) s := by
  revert X; k_fill; intro X
  k_dflt (refine' enterX (news := (38, tabObj ps) :: ex ++ (45, tabObj ps2) :: ex2) B F X T N hk ?k8 ?k6 ?k7 ?k9 ?kB ?_ ?c2 ?c3 ?c4 ?c5; (case k6 => k_is); (case k7 => k_is); (case k8 => ktr_room); (case k9 => exact BindsTo.of_eq rfl); (case c5 => decide); (case kB => exact locs rfl); (case c2 => exact rfl); (case c3 => exact rfl); (case c4 => exact rfl); k_whole; intro g L' h' tk' hg st1 F' N' B' X' T' l1; (try dsimp only); (try k_fold))
  have hC1 := CodeHd.keeps hC st1
  have hC21 := CodeHd.keeps hC2 st1
  have hnb0 := bits_pos hb
  have hnb : 1 ≤ Builtin.Int.intBits (b : Int) ∧ Builtin.Int.intBits (b : Int) ≤ 9 := ⟨hnb0.1, hnb0.2.1⟩
  k_steps
  generalize Builtin.Int.intBits (b : Int) = nb at *
  (rename Fr _ _ _ _ => kF); (rename News _ _ _ _ => kN)
  have N1 : News g L' _ ((38, tabObj ps) :: ex) := fun q hq => kN q (List.mem_append_left _ hq)
  refine' use_specX (rest := (45, tabObj ps2) :: ex2) kF kN (X := ((38, tabObj ps) :: ex).map (·.1)) ?hX ?hr ?h0 ?_
  case hX => exact fun q hq => apart_of kN q (by rw [List.map_append]; exact List.mem_append_left _ hq)
  case hr => exact fun q hq => ⟨List.mem_append_right _ hq, fun hm => by
    obtain ⟨r, hr, e⟩ := List.mem_map.mp hm
    exact hsep r hr (e ▸ List.mem_map_of_mem hq)⟩
  case h0 => exact spec_i2d B' kF X' T' rfl (by ktr_room) (by ktr_units) hT N1 hC1 hx.1 hx.2 hnb hk1 hkk
  rintro v h2 tk2 F2 N2 E2 ⟨D, vals, k0, ps', ex', rfl, hD, hgD, hI, ⟨c, oc, vs, t, rfl, rfl, hoc, hoc1⟩, hq', hex', hexx⟩
  have hmap : h2.get? 38 = some (tabObj #[rawInt 73, rawInt 4, Value.ref c]) := hq' _ (List.Mem.head _)
  have hcc : h2.get? c = some oc := hq' (c, oc) (List.Mem.tail _ (List.Mem.head _))
  have hdom : ∀ q ∈ [(38, tabObj #[rawInt 73, rawInt 4, Value.ref c]), (c, oc)], q.1 ≠ L' ∧ g.get? q.1 = none := by
    intro q hq
    rcases List.mem_cons.mp hq with rfl | hq
    · exact (N1 (38, _) (List.Mem.head _)).2
    · rw [List.mem_singleton.mp hq]
      rcases hex' (c, oc) (List.Mem.head _) with h1 | h1
      · exact (N1 (c, oc) (List.Mem.tail _ h1)).2
      · exact fresh_of kF h1
  have hDf := fresh_of kF hD
  have hsD := fresh_sep kN hD
  have hD38 : @Ne Nat 38 D := hsD (38, _) (List.mem_append_left _ (List.Mem.head _))
  have hcD : @Ne Nat c D := fun e => by
    have h1 := hcc
    rw [show c = D from e, hgD] at h1
    cases h1
    cases hoc
  have hcX : ∀ q ∈ (45, tabObj ps2) :: ex2, @Ne Nat q.1 c := fun q hq => by
    rcases hex' (c, oc) (List.Mem.head _) with h1 | h1
    · intro e
      have h9 : q.1 ∈ ((45, tabObj ps2) :: ex2).map (·.1) := List.mem_map_of_mem hq
      rw [show q.1 = c from e] at h9
      exact hsep (c, oc) (List.Mem.tail _ h1) h9
    · exact fresh_sep kN h1 q (List.mem_append_right _ hq)
  have h38X : ∀ q ∈ (45, tabObj ps2) :: ex2, @Ne Nat q.1 38 := fun q hq e => by
    have h9 : q.1 ∈ ((45, tabObj ps2) :: ex2).map (·.1) := List.mem_map_of_mem hq
    rw [show q.1 = 38 from e] at h9
    exact hsep (38, tabObj ps) (List.Mem.head _) h9
  have hDX : ∀ q ∈ (45, tabObj ps2) :: ex2, @Ne Nat q.1 D := fun q hq => hsD q (List.mem_append_right _ hq)
  have hc38 : @Ne Nat c 38 := by
    intro e
    have h1 := hcc
    rw [show c = 38 from e, hmap] at h1
    cases h1
    cases hoc
    simp [rawInt] at hoc1
  simp only [List.mem_cons, forall_eq_or_imp] at hcX h38X hDX
  have hcS : (c, oc) ∈ ex ∨ s.heap.get? c = none := (hex' (c, oc) (List.Mem.head _)).imp id fun h1 => fresh_chain hg kF kN h1
  clear hsD
  rcases hT2 with ⟨rfl, rfl⟩ | ⟨c2, oc2, vs2, u2, rfl, rfl, hoc2, hoc12⟩
  · have N3 : News g L' h2 [(D, W.listOf vals.toArray k0), (38, tabObj #[rawInt 73, rawInt 4, Value.ref c]), (c, oc), (45, tabObj #[])] := by
      refine news_cons (fun q hq => ?_) hgD hDf.1 hDf.2
      rcases List.mem_cons.mp hq with rfl | hq
      · exact ⟨hmap, hdom _ (List.Mem.head _)⟩
      · rcases List.mem_cons.mp hq with rfl | hq
        · exact ⟨hcc, hdom _ (List.Mem.tail _ (List.Mem.head _))⟩
        · exact N2 _ hq
    clear kF kN N2
    k_steps
    (rename Fr _ _ _ _ => kF); (rename News _ _ _ _ => kN)
    refine addr2 kN ?_; intro I Q eI eQ; subst eI eQ
    have hcX1 := hcX.1
    have h38X1 := h38X.1
    have hDX1 := hDX.1
    have hlv : vals.length = k := by rw [hI.length, digs_length]
    have hN0 : News g L' _ ((I, revObj D ((vals.length : Int) - 1)) :: (D, W.listOf vals.toArray k0) :: [(Q, W.listOf #[] 0), (38, tabObj #[rawInt 73, rawInt 4, Value.ref c]), (c, oc), (45, tabObj #[])]) := fun q hq => kN q (by
      simp only [List.mem_cons, List.not_mem_nil, or_false] at hq
      rcases hq with rfl | rfl | rfl | rfl | rfl | rfl <;> k_mem)
    have hnn : @Ne Nat D Q ∧ @Ne Nat 38 Q ∧ @Ne Nat c Q ∧ @Ne Nat 45 Q := by (k_extra "mine:nes")
    with_unfolding_all refine' iter_turnsR (m₀ := ?m0) (fun i m news => (∃ qv qs kq r, news = [(Q, W.listOf qv.toArray kq), (38, tabObj #[rawInt 73, rawInt 4, Value.ref c]), (c, oc), (45, tabObj #[])] ∧ IntsAre qv qs ∧ qs.length = i ∧ (∀ z ∈ qs, 0 ≤ z) ∧ (topn nb k x i : Int) = b * hval nb qs + r ∧ 0 ≤ r ∧ r < b ∧ ∃ t, m (Str.ofString "r") = some (.int r t)) ∧ ∀ z, [Str.ofString "a_digit", Str.ofString "q_digit"].contains z = false → z ≠ Str.ofString "r" → m z = ?m0 z) ?h1 kF hN0 rfl rfl ?h3 ?h4 ?h5 ?h2 ?turn ?done
    case h1 => rfl
    case h2 => exact ⟨⟨[], [], 0, 0, rfl, .nil, rfl, (fun z hz => nomatch hz), by simp [topn_zero, hval], by omega, by omega, ⟨_, rfl⟩⟩, fun _ _ _ => rfl⟩
    case h3 =>
      intro p hp
      simp only [List.mem_cons, List.not_mem_nil, or_false] at hp
      rcases hp with rfl | rfl | rfl | rfl <;> exact neN (by k_ne)
    case h4 =>
      intro p hp
      simp only [List.mem_cons, List.not_mem_nil, or_false] at hp
      rcases hp with rfl | rfl | rfl | rfl <;> exact neN (by k_ne)
    case h5 => exact neN (by k_ne)
    case turn =>
      rintro i v m₁ news₁ h tk own hv hi hadr hoff ⟨⟨qv, qs, kq, r, rfl, hqI, hqn, hq0, hHr, hr0, hrb, ⟨tr, hmr⟩⟩, hs⟩ F1 N1
      rw [forget1 hmr hs] at F1
      rw [hlv] at hi hv
      obtain ⟨d, hd1, hd2, hd3⟩ := topn_succ nb k x i hi
      obtain ⟨td, hx2⟩ := hI.get _ _ hd1
      rw [hv] at hx2
      cases hx2
      clear hs hadr hmr kF kN hN0
      simp only [List.cons_append, List.nil_append] at N1
      have hpw : (2 : Int) ^ nb ≤ 512 := by
        have h1 : 2 ^ nb ≤ 2 ^ 9 := Nat.pow_le_pow_right (by decide) hnb.2
        have h2 : ((2 ^ nb : Nat) : Int) ≤ ((2 ^ 9 : Nat) : Int) := by exact_mod_cast h1
        rw [Int.natCast_pow] at h2
        exact h2
      have hpw0 : (0 : Int) < 2 ^ nb := Int.pow_pos (by decide)
      have hsh : 0 ≤ r * 2 ^ ((nb : Int)).toNat ∧ r * 2 ^ ((nb : Int)).toNat ≤ 262144 := by
        rw [Int.toNat_natCast]
        refine ⟨Int.mul_nonneg hr0 (by omega), ?_⟩
        have h1 : r * 2 ^ nb ≤ 512 * 2 ^ nb := Int.mul_le_mul_of_nonneg_right (by omega) (by omega)
        omega
      have hx29 : 0 ≤ r * 2 ^ ((nb : Int)).toNat + (d : Int) ∧ r * 2 ^ ((nb : Int)).toNat + (d : Int) < 2 ^ 40 := by omega
      have hb29 : 0 < (b : Int) ∧ (b : Int) < 2 ^ 20 := by omega
      have hn29 : 0 ≤ (nb : Int) ∧ (nb : Int) < 100 := by omega
      have hbt29 : (Builtin.Int.intBits (r * 2 ^ ((nb : Int)).toNat + (d : Int)) : Int) ≤ 100 := by
        have h1 : Builtin.Int.intBits (r * 2 ^ ((nb : Int)).toNat + (d : Int)) ≤ 100 := intBits_le_iff.mpr (by omega)
        omega
      have hqv := hqI.length
      have hqk : qv.length < 100 := by omega
      have hoffQ : ∀ q ∈ own, q.1 ≠ Q := hoff.ne (.head _)
      have hnDQ : @Ne Nat D Q := hnn.1
      have hn38 : @Ne Nat 38 Q := hnn.2.1
      have hncQ : @Ne Nat c Q := hnn.2.2.1
      have hn45 : @Ne Nat 45 Q := hnn.2.2.2
      (try k_fold)
      k_steps
      (rename Fr _ _ _ _ => kF); (rename News _ _ _ _ => kN)
      refine nameQ kN ?_
      intro v9 e9
      refine InvEndN.intro (nx := [(Q, W.listOf (qv ++ [v9]).toArray (kq + 1)), (38, tabObj #[rawInt 73, rawInt 4, Value.ref c]), (c, oc), (45, tabObj #[])]) kF kN ?hj rfl ?hmm (fun p hp => List.Mem.tail _ (List.Mem.tail _ (List.Mem.tail _ (List.Mem.tail _ (List.Mem.tail _ (List.Mem.tail _ (hp)))))))
      case hmm =>
        subst e9
        intro p hp
        simp only [List.mem_cons, List.not_mem_nil, or_false] at hp
        rcases hp with rfl | rfl | rfl | rfl <;> first | k_mem | (rw [← List.push_toArray]; k_mem)
      case hj =>
        subst e9
        have hfd := dmp_step (qs := qs) (n := nb) (b := b) (d := d) (by omega) hr0 hHr hd2
        refine And.intro ⟨_, qs ++ [(r * 2 ^ nb + (d : Int)).fdiv (b : Int)], _, (r * 2 ^ nb + (d : Int)).fmod (b : Int), rfl, hqI.append (.cons _ _ .nil), ?_, ?_, hfd.2.1, hfd.2.2.1, hfd.2.2.2, ?_⟩ ?_
        · rw [List.length_append]; simp; omega
        · intro z hz
          rcases List.mem_append.mp hz with hz | hz
          · exact hq0 z hz
          · rw [List.mem_singleton.mp hz]; exact hfd.1
        · exact ⟨_, rfl⟩
        · (k_extra "mine:same")
    case done =>
      rintro m₁ news₁ h tk ⟨⟨qv, qs, kq, r, rfl, hqI, hqn, hq0, hHr, hr0, hrb, ⟨tr, hmr⟩⟩, hs⟩ F1 N1
      rw [forget1 hmr hs] at F1
      rw [hlv] at hHr hqn
      rw [topn_all nb k x hk1.1] at hHr
      clear hs hmr kF kN hN0
      have hqv := hqI.length
      have hnDQ : @Ne Nat D Q := hnn.1
      have hn38 : @Ne Nat 38 Q := hnn.2.1
      have hncQ : @Ne Nat c Q := hnn.2.2.1
      have hn45 : @Ne Nat 45 Q := hnn.2.2.2
      have hqk : qv.length < 100 := by omega
      (try k_fold)
      k_steps
      (rename Fr _ _ _ _ => kF); (rename News _ _ _ _ => kN)
      refine' kl_reverse (l := qv.reverse) kF kN ?he ?U ?hz ?_
      case U => k_upd
      case he => rfl
      case hz => (show qv.length ≤ _; rw [sizeLine_eq]; omega)
      intro h4 F4 N4
      clear kF kN
      k_steps
      (rename Fr _ _ _ _ => kF); (rename News _ _ _ _ => kN)
      have hqr := hqI.reverse
      have hnn9 := hval_nonneg nb qs hq0
      have hle9 : 1 * hval nb qs ≤ b * hval nb qs := Int.mul_le_mul_of_nonneg_right (by omega) hnn9
      have NX : News g L' _ [((45 : Addr), tabObj #[])] := fun q hq => kN q (by
        simp only [List.mem_cons, List.not_mem_nil, or_false] at hq
        rcases hq with rfl <;> k_mem)
      have hlQ : Heap.IsList _ Q qv.reverse.toArray := ⟨_, (kN (Q, W.listOf qv.reverse.toArray kq) (by k_mem)).1, rfl, kq, rfl⟩
      have hlx : Q ∉ [((45 : Addr), tabObj #[])].map (·.1) := by
        simp only [List.map_cons, List.map_nil, List.mem_cons, List.not_mem_nil, or_false, not_or]; (first | exact neN (by k_ne) | (refine ⟨neN (by k_ne), neN (by k_ne)⟩))
      have hlen : 1 ≤ qs.reverse.length ∧ qs.reverse.length ≤ 17 := by rw [List.length_reverse]; omega
      have hnn : ∀ z ∈ qs.reverse, 0 ≤ z := fun z hz => hq0 z (List.mem_reverse.mp hz)
      have hmax : dval nb qs.reverse < 2 ^ 62 := by rw [dval_rev]; omega
      refine' use_specX (rest := [(D, W.listOf vals.toArray k0), (Q, W.listOf qv.reverse.toArray kq), (38, tabObj #[rawInt 73, rawInt 4, Value.ref c]), (c, oc)]) kF kN (X := [((45 : Addr), tabObj #[])].map (·.1)) (apart_of NX) ?hr ?h0 ?_
      case h0 => exact spec_d2i B' kF X' T' rfl (by ktr_room) (by exact .inl ⟨rfl, rfl⟩) NX hC21 hlQ hlx hqr hnb hlen hnn hmax
      case hr =>
        intro q hq
        simp only [List.mem_cons, List.not_mem_nil, or_false] at hq
        rcases hq with rfl | rfl | rfl | rfl <;> refine ⟨by k_mem, ?_⟩ <;> simp only [List.map_cons, List.map_nil, List.mem_cons, List.not_mem_nil, or_false, not_or] <;> (first | exact neN (by k_ne) | (refine ⟨neN (by k_ne), neN (by k_ne)⟩))
      rintro v5 h5 tk5 F5 N5 E5 ⟨⟨t5, rfl⟩, ps', ex', ⟨c', oc', vs', u', rfl, rfl, hoc', hoc1'⟩, hq5, hex5, hexx5⟩
      rw [dval_rev]
      have hdom5 : ∀ q ∈ [((45 : Addr), tabObj #[rawInt 88, rawInt 4, Value.ref c']), (c', oc')], q.1 ≠ L' ∧ g.get? q.1 = none := by
        intro q hq
        rcases List.mem_cons.mp hq with rfl | hq
        · exact (NX (45, _) (List.Mem.head _)).2
        · rw [List.mem_singleton.mp hq]
          rcases hex5 (c', oc') (List.Mem.head _) with h1 | h1
          · cases h1
          · exact fresh_of kF h1
      have hX9 : ∀ a ∈ (((38, tabObj ps) :: ex ++ [(45, tabObj #[])]) : List (Addr × Obj)).map (·.1), a ∈ ([D, Q, 38, c, 45] : List Addr) := by
        intro a ha
        obtain ⟨q, hq, rfl⟩ := List.mem_map.mp ha
        rcases List.mem_append.mp hq with hq | hq
        · rcases List.mem_cons.mp hq with rfl | hq
          · simp
          · have h1 := hexx (fun e => by rw [e] at hq; cases hq)
            rw [← h1] at hq
            rw [List.mem_singleton.mp hq]
            simp
        · simp only [List.mem_cons, List.not_mem_nil, or_false] at hq
          rcases hq with rfl <;> simp
      have hcS' : (c', oc') ∈ [] ∨ s.heap.get? c' = none := (hex5 (c', oc') (List.Mem.head _)).imp id fun h1 => fresh_chain2 hg kF kN (fun a ha => by have := hX9 a ha; simp only [List.map_cons, List.map_nil, List.mem_cons, List.not_mem_nil, or_false] at this ⊢; rcases this with e | e | e | e | e <;> rw [e] <;> simp) h1
      have N6 : News g L' h5 [(D, W.listOf vals.toArray k0), (Q, W.listOf qv.reverse.toArray kq), (38, tabObj #[rawInt 73, rawInt 4, Value.ref c]), (c, oc), (45, tabObj #[rawInt 88, rawInt 4, Value.ref c']), (c', oc')] := by
        intro q hq
        have hq' : q ∈ [(D, W.listOf vals.toArray k0), (Q, W.listOf qv.reverse.toArray kq), (38, tabObj #[rawInt 73, rawInt 4, Value.ref c]), (c, oc)] ++ [((45 : Addr), tabObj #[rawInt 88, rawInt 4, Value.ref c']), (c', oc')] := hq
        rcases List.mem_append.mp hq' with h1 | h1
        · exact N5 q h1
        · exact ⟨hq5 q h1, hdom5 q h1⟩
      have hval9 : hval nb qs = ((x / b : Nat) : Int) ∧ r = ((x % b : Nat) : Int) := dmp_end hb.1 hHr hr0 hrb
      rw [hval9.1]
      have hr9 := hval9.2
      clear kF kN N5
      subst hr9
      k_steps
      (k_extra "mine:ret")
      (rename Fr _ _ _ _ => kF); (rename News _ _ _ _ => kN)
      refine addr1 kN ?_; intro D9 e9; subst e9
      have hD9 := fresh_back (D := D9) hg (fun ha => by
        have := hX9 _ ha
        simp only [List.mem_cons, List.not_mem_nil, or_false] at this
        rcases this with e | e | e | e | e <;> exact absurd e.symm (neN (by k_ne))) (kN (D9, _) (List.Mem.head _)).2.2
      refine retX hg kF ⟨D9, _, _, _, _, _, _, rfl, hD9, (kN (D9, _) (List.Mem.head _)).1, ⟨c, oc, vs, t, rfl, rfl, hoc, hoc1⟩, ⟨c', oc', vs', u', rfl, rfl, hoc', hoc1'⟩, fun q hq => (kN q ?_).1, fun q hq => ?_, hexx, fun q hq => ?_, hexx5⟩
      · simp only [List.cons_append, List.nil_append, List.mem_cons, List.not_mem_nil, or_false] at hq
        rcases hq with rfl | rfl | rfl | rfl <;> k_mem
      · rw [List.mem_singleton.mp hq]; exact hcS
      · rw [List.mem_singleton.mp hq]; exact hcS'
  · have N3 : News g L' h2 [(D, W.listOf vals.toArray k0), (38, tabObj #[rawInt 73, rawInt 4, Value.ref c]), (c, oc), (45, tabObj #[rawInt 88, rawInt 4, Value.ref c2]), (c2, oc2)] := by
      refine news_cons (fun q hq => ?_) hgD hDf.1 hDf.2
      rcases List.mem_cons.mp hq with rfl | hq
      · exact ⟨hmap, hdom _ (List.Mem.head _)⟩
      · rcases List.mem_cons.mp hq with rfl | hq
        · exact ⟨hcc, hdom _ (List.Mem.tail _ (List.Mem.head _))⟩
        · exact N2 _ hq
    clear kF kN N2
    k_steps
    (rename Fr _ _ _ _ => kF); (rename News _ _ _ _ => kN)
    refine addr2 kN ?_; intro I Q eI eQ; subst eI eQ
    have hcX1 := hcX.1
    have h38X1 := h38X.1
    have hDX1 := hDX.1
    have hcX2 := hcX.2 _ (List.Mem.head _)
    have h38X2 := h38X.2 _ (List.Mem.head _)
    have hDX2 := hDX.2 _ (List.Mem.head _)
    dsimp only at hcX2 h38X2 hDX2
    have hlv : vals.length = k := by rw [hI.length, digs_length]
    have hN0 : News g L' _ ((I, revObj D ((vals.length : Int) - 1)) :: (D, W.listOf vals.toArray k0) :: [(Q, W.listOf #[] 0), (38, tabObj #[rawInt 73, rawInt 4, Value.ref c]), (c, oc), (45, tabObj #[rawInt 88, rawInt 4, Value.ref c2]), (c2, oc2)]) := fun q hq => kN q (by
      simp only [List.mem_cons, List.not_mem_nil, or_false] at hq
      rcases hq with rfl | rfl | rfl | rfl | rfl | rfl | rfl <;> k_mem)
    have hnn : @Ne Nat D Q ∧ @Ne Nat 38 Q ∧ @Ne Nat c Q ∧ @Ne Nat 45 Q := by (k_extra "mine:nes")
    have hc2Q : @Ne Nat c2 Q := by k_ne
    with_unfolding_all refine' iter_turnsR (m₀ := ?m0h) (fun i m news => (∃ qv qs kq r, news = [(Q, W.listOf qv.toArray kq), (38, tabObj #[rawInt 73, rawInt 4, Value.ref c]), (c, oc), (45, tabObj #[rawInt 88, rawInt 4, Value.ref c2]), (c2, oc2)] ∧ IntsAre qv qs ∧ qs.length = i ∧ (∀ z ∈ qs, 0 ≤ z) ∧ (topn nb k x i : Int) = b * hval nb qs + r ∧ 0 ≤ r ∧ r < b ∧ ∃ t, m (Str.ofString "r") = some (.int r t)) ∧ ∀ z, [Str.ofString "a_digit", Str.ofString "q_digit"].contains z = false → z ≠ Str.ofString "r" → m z = ?m0h z) ?h1 kF hN0 rfl rfl ?h3 ?h4 ?h5 ?h2 ?turn ?done
    case h1 => rfl
    case h2 => exact ⟨⟨[], [], 0, 0, rfl, .nil, rfl, (fun z hz => nomatch hz), by simp [topn_zero, hval], by omega, by omega, ⟨_, rfl⟩⟩, fun _ _ _ => rfl⟩
    case h3 =>
      intro p hp
      simp only [List.mem_cons, List.not_mem_nil, or_false] at hp
      rcases hp with rfl | rfl | rfl | rfl | rfl <;> exact neN (by k_ne)
    case h4 =>
      intro p hp
      simp only [List.mem_cons, List.not_mem_nil, or_false] at hp
      rcases hp with rfl | rfl | rfl | rfl | rfl <;> exact neN (by k_ne)
    case h5 => exact neN (by k_ne)
    case turn =>
      rintro i v m₁ news₁ h tk own hv hi hadr hoff ⟨⟨qv, qs, kq, r, rfl, hqI, hqn, hq0, hHr, hr0, hrb, ⟨tr, hmr⟩⟩, hs⟩ F1 N1
      rw [forget1 hmr hs] at F1
      rw [hlv] at hi hv
      obtain ⟨d, hd1, hd2, hd3⟩ := topn_succ nb k x i hi
      obtain ⟨td, hx2⟩ := hI.get _ _ hd1
      rw [hv] at hx2
      cases hx2
      clear hs hadr hmr kF kN hN0
      simp only [List.cons_append, List.nil_append] at N1
      have hpw : (2 : Int) ^ nb ≤ 512 := by
        have h1 : 2 ^ nb ≤ 2 ^ 9 := Nat.pow_le_pow_right (by decide) hnb.2
        have h2 : ((2 ^ nb : Nat) : Int) ≤ ((2 ^ 9 : Nat) : Int) := by exact_mod_cast h1
        rw [Int.natCast_pow] at h2
        exact h2
      have hpw0 : (0 : Int) < 2 ^ nb := Int.pow_pos (by decide)
      have hsh : 0 ≤ r * 2 ^ ((nb : Int)).toNat ∧ r * 2 ^ ((nb : Int)).toNat ≤ 262144 := by
        rw [Int.toNat_natCast]
        refine ⟨Int.mul_nonneg hr0 (by omega), ?_⟩
        have h1 : r * 2 ^ nb ≤ 512 * 2 ^ nb := Int.mul_le_mul_of_nonneg_right (by omega) (by omega)
        omega
      have hx29 : 0 ≤ r * 2 ^ ((nb : Int)).toNat + (d : Int) ∧ r * 2 ^ ((nb : Int)).toNat + (d : Int) < 2 ^ 40 := by omega
      have hb29 : 0 < (b : Int) ∧ (b : Int) < 2 ^ 20 := by omega
      have hn29 : 0 ≤ (nb : Int) ∧ (nb : Int) < 100 := by omega
      have hbt29 : (Builtin.Int.intBits (r * 2 ^ ((nb : Int)).toNat + (d : Int)) : Int) ≤ 100 := by
        have h1 : Builtin.Int.intBits (r * 2 ^ ((nb : Int)).toNat + (d : Int)) ≤ 100 := intBits_le_iff.mpr (by omega)
        omega
      have hqv := hqI.length
      have hqk : qv.length < 100 := by omega
      have hoffQ : ∀ q ∈ own, q.1 ≠ Q := hoff.ne (.head _)
      have hnDQ : @Ne Nat D Q := hnn.1
      have hn38 : @Ne Nat 38 Q := hnn.2.1
      have hncQ : @Ne Nat c Q := hnn.2.2.1
      have hn45 : @Ne Nat 45 Q := hnn.2.2.2
      (try k_fold)
      k_steps
      (rename Fr _ _ _ _ => kF); (rename News _ _ _ _ => kN)
      refine nameQ kN ?_
      intro v9 e9
      refine InvEndN.intro (nx := [(Q, W.listOf (qv ++ [v9]).toArray (kq + 1)), (38, tabObj #[rawInt 73, rawInt 4, Value.ref c]), (c, oc), (45, tabObj #[rawInt 88, rawInt 4, Value.ref c2]), (c2, oc2)]) kF kN ?hj rfl ?hmm (fun p hp => List.Mem.tail _ (List.Mem.tail _ (List.Mem.tail _ (List.Mem.tail _ (List.Mem.tail _ (List.Mem.tail _ (List.Mem.tail _ (hp))))))))
      case hmm =>
        subst e9
        intro p hp
        simp only [List.mem_cons, List.not_mem_nil, or_false] at hp
        rcases hp with rfl | rfl | rfl | rfl | rfl <;> first | k_mem | (rw [← List.push_toArray]; k_mem)
      case hj =>
        subst e9
        have hfd := dmp_step (qs := qs) (n := nb) (b := b) (d := d) (by omega) hr0 hHr hd2
        refine And.intro ⟨_, qs ++ [(r * 2 ^ nb + (d : Int)).fdiv (b : Int)], _, (r * 2 ^ nb + (d : Int)).fmod (b : Int), rfl, hqI.append (.cons _ _ .nil), ?_, ?_, hfd.2.1, hfd.2.2.1, hfd.2.2.2, ?_⟩ ?_
        · rw [List.length_append]; simp; omega
        · intro z hz
          rcases List.mem_append.mp hz with hz | hz
          · exact hq0 z hz
          · rw [List.mem_singleton.mp hz]; exact hfd.1
        · exact ⟨_, rfl⟩
        · (k_extra "mine:same")
    case done =>
      rintro m₁ news₁ h tk ⟨⟨qv, qs, kq, r, rfl, hqI, hqn, hq0, hHr, hr0, hrb, ⟨tr, hmr⟩⟩, hs⟩ F1 N1
      rw [forget1 hmr hs] at F1
      rw [hlv] at hHr hqn
      rw [topn_all nb k x hk1.1] at hHr
      clear hs hmr kF kN hN0
      have hqv := hqI.length
      have hnDQ : @Ne Nat D Q := hnn.1
      have hn38 : @Ne Nat 38 Q := hnn.2.1
      have hncQ : @Ne Nat c Q := hnn.2.2.1
      have hn45 : @Ne Nat 45 Q := hnn.2.2.2
      have hqk : qv.length < 100 := by omega
      (try k_fold)
      k_steps
      (rename Fr _ _ _ _ => kF); (rename News _ _ _ _ => kN)
      refine' kl_reverse (l := qv.reverse) kF kN ?he ?U ?hz ?_
      case U => k_upd
      case he => rfl
      case hz => (show qv.length ≤ _; rw [sizeLine_eq]; omega)
      intro h4 F4 N4
      clear kF kN
      k_steps
      (rename Fr _ _ _ _ => kF); (rename News _ _ _ _ => kN)
      have hqr := hqI.reverse
      have hnn9 := hval_nonneg nb qs hq0
      have hle9 : 1 * hval nb qs ≤ b * hval nb qs := Int.mul_le_mul_of_nonneg_right (by omega) hnn9
      have NX : News g L' _ [((45 : Addr), tabObj #[rawInt 88, rawInt 4, Value.ref c2]), (c2, oc2)] := fun q hq => kN q (by
        simp only [List.mem_cons, List.not_mem_nil, or_false] at hq
        rcases hq with rfl | rfl <;> k_mem)
      have hlQ : Heap.IsList _ Q qv.reverse.toArray := ⟨_, (kN (Q, W.listOf qv.reverse.toArray kq) (by k_mem)).1, rfl, kq, rfl⟩
      have hlx : Q ∉ [((45 : Addr), tabObj #[rawInt 88, rawInt 4, Value.ref c2]), (c2, oc2)].map (·.1) := by
        simp only [List.map_cons, List.map_nil, List.mem_cons, List.not_mem_nil, or_false, not_or]; (first | exact neN (by k_ne) | (refine ⟨neN (by k_ne), neN (by k_ne)⟩))
      have hlen : 1 ≤ qs.reverse.length ∧ qs.reverse.length ≤ 17 := by rw [List.length_reverse]; omega
      have hnn : ∀ z ∈ qs.reverse, 0 ≤ z := fun z hz => hq0 z (List.mem_reverse.mp hz)
      have hmax : dval nb qs.reverse < 2 ^ 62 := by rw [dval_rev]; omega
      refine' use_specX (rest := [(D, W.listOf vals.toArray k0), (Q, W.listOf qv.reverse.toArray kq), (38, tabObj #[rawInt 73, rawInt 4, Value.ref c]), (c, oc)]) kF kN (X := [((45 : Addr), tabObj #[rawInt 88, rawInt 4, Value.ref c2]), (c2, oc2)].map (·.1)) (apart_of NX) ?hr ?h0 ?_
      case h0 => exact spec_d2i B' kF X' T' rfl (by ktr_room) (by exact .inr ⟨c2, oc2, vs2, u2, rfl, rfl, hoc2, hoc12⟩) NX hC21 hlQ hlx hqr hnb hlen hnn hmax
      case hr =>
        intro q hq
        simp only [List.mem_cons, List.not_mem_nil, or_false] at hq
        rcases hq with rfl | rfl | rfl | rfl <;> refine ⟨by k_mem, ?_⟩ <;> simp only [List.map_cons, List.map_nil, List.mem_cons, List.not_mem_nil, or_false, not_or] <;> (first | exact neN (by k_ne) | (refine ⟨neN (by k_ne), neN (by k_ne)⟩))
      rintro v5 h5 tk5 F5 N5 E5 ⟨⟨t5, rfl⟩, ps', ex', ⟨c', oc', vs', u', rfl, rfl, hoc', hoc1'⟩, hq5, hex5, hexx5⟩
      rw [dval_rev]
      have hdom5 : ∀ q ∈ [((45 : Addr), tabObj #[rawInt 88, rawInt 4, Value.ref c']), (c', oc')], q.1 ≠ L' ∧ g.get? q.1 = none := by
        intro q hq
        rcases List.mem_cons.mp hq with rfl | hq
        · exact (NX (45, _) (List.Mem.head _)).2
        · rw [List.mem_singleton.mp hq]
          rcases hex5 (c', oc') (List.Mem.head _) with h1 | h1
          · exact (NX (c', oc') (List.Mem.tail _ h1)).2
          · exact fresh_of kF h1
      have hX9 : ∀ a ∈ (((38, tabObj ps) :: ex ++ [(45, tabObj #[rawInt 88, rawInt 4, .ref c2]), (c2, oc2)]) : List (Addr × Obj)).map (·.1), a ∈ ([D, Q, 38, c, c2, 45] : List Addr) := by
        intro a ha
        obtain ⟨q, hq, rfl⟩ := List.mem_map.mp ha
        rcases List.mem_append.mp hq with hq | hq
        · rcases List.mem_cons.mp hq with rfl | hq
          · simp
          · have h1 := hexx (fun e => by rw [e] at hq; cases hq)
            rw [← h1] at hq
            rw [List.mem_singleton.mp hq]
            simp
        · simp only [List.mem_cons, List.not_mem_nil, or_false] at hq
          rcases hq with rfl | rfl <;> simp
      have hcS' : (c', oc') ∈ [(c2, oc2)] ∨ s.heap.get? c' = none := (hex5 (c', oc') (List.Mem.head _)).imp id fun h1 => fresh_chain2 hg kF kN (fun a ha => by have := hX9 a ha; simp only [List.map_cons, List.map_nil, List.mem_cons, List.not_mem_nil, or_false] at this ⊢; rcases this with e | e | e | e | e | e <;> rw [e] <;> simp) h1
      have N6 : News g L' h5 [(D, W.listOf vals.toArray k0), (Q, W.listOf qv.reverse.toArray kq), (38, tabObj #[rawInt 73, rawInt 4, Value.ref c]), (c, oc), (45, tabObj #[rawInt 88, rawInt 4, Value.ref c']), (c', oc')] := by
        intro q hq
        have hq' : q ∈ [(D, W.listOf vals.toArray k0), (Q, W.listOf qv.reverse.toArray kq), (38, tabObj #[rawInt 73, rawInt 4, Value.ref c]), (c, oc)] ++ [((45 : Addr), tabObj #[rawInt 88, rawInt 4, Value.ref c']), (c', oc')] := hq
        rcases List.mem_append.mp hq' with h1 | h1
        · exact N5 q h1
        · exact ⟨hq5 q h1, hdom5 q h1⟩
      have hval9 : hval nb qs = ((x / b : Nat) : Int) ∧ r = ((x % b : Nat) : Int) := dmp_end hb.1 hHr hr0 hrb
      rw [hval9.1]
      have hr9 := hval9.2
      clear kF kN N5
      subst hr9
      k_steps
      (k_extra "mine:ret")
      (rename Fr _ _ _ _ => kF); (rename News _ _ _ _ => kN)
      refine addr1 kN ?_; intro D9 e9; subst e9
      have hD9 := fresh_back (D := D9) hg (fun ha => by
        have := hX9 _ ha
        simp only [List.mem_cons, List.not_mem_nil, or_false] at this
        rcases this with e | e | e | e | e | e <;> exact absurd e.symm (neN (by k_ne))) (kN (D9, _) (List.Mem.head _)).2.2
      refine retX hg kF ⟨D9, _, _, _, _, _, _, rfl, hD9, (kN (D9, _) (List.Mem.head _)).1, ⟨c, oc, vs, t, rfl, rfl, hoc, hoc1⟩, ⟨c', oc', vs', u', rfl, rfl, hoc', hoc1'⟩, fun q hq => (kN q ?_).1, fun q hq => ?_, hexx, fun q hq => ?_, hexx5⟩
      · simp only [List.cons_append, List.nil_append, List.mem_cons, List.not_mem_nil, or_false] at hq
        rcases hq with rfl | rfl | rfl | rfl <;> k_mem
      · rw [List.mem_singleton.mp hq]; exact hcS
      · rw [List.mem_singleton.mp hq]; exact hcS'
end
end PartS11
section PartS12
theorem base_S12 : True := by
  w_top off
  k_with_none
  k_with "mine:step" => ((first | (k_unfold; (try dsimp only)) | (k_end; wrow_close) | walk1 | (dsimp only; walk1) | (leave1; walk_say "STEP leave1"; try dsimp only) | fail "no step"))
  k_with "storeName" => ((k_here; k_dflt (first | (refine' storeI ?FW7 ?NW7 ?_ ?aW7 ?bW7; (case FW7 => k_asm); (case NW7 => k_asm); (case aW7 => rfl); (case bW7 => rfl); k_whole; intro hq9 tq9 tkq9 Fq9 Nq9; (try k_sweep)) | (refine' storeU ?FW7 ?NW7 ?_ ?aW7 ?bW7; (case FW7 => k_asm); (case NW7 => k_asm); (case aW7 => rfl); (case bW7 => rfl); k_whole; intro hq9 tkq9 Fq9 Nq9; (try k_sweep)))))
  k_with "mine:pj" => (((rename (_ ∧ _) => z); first | exact z.1 | exact Zs z.1 | exact Zl z.1 | exact Zg z.1 | exact z.2 | exact Zs z.2 | exact Zl z.2 | exact Zg z.2 | exact z.2.1 | exact Zs z.2.1 | exact Zl z.2.1 | exact Zg z.2.1 | exact z.2.2 | exact Zs z.2.2 | exact Zl z.2.2 | exact Zg z.2.2 | exact z.2.2.1 | exact Zs z.2.2.1 | exact Zl z.2.2.1 | exact Zg z.2.2.1 | exact z.2.2.2 | exact Zs z.2.2.2 | exact Zl z.2.2.2 | exact Zg z.2.2.2 | exact z.2.2.2.1 | exact Zs z.2.2.2.1 | exact Zl z.2.2.2.1 | exact Zg z.2.2.2.1 | exact z.2.2.2.2 | exact Zs z.2.2.2.2 | exact Zl z.2.2.2.2 | exact Zg z.2.2.2.2 | exact z.2.2.2.2.1 | exact Zs z.2.2.2.2.1 | exact Zl z.2.2.2.2.1 | exact Zg z.2.2.2.2.1 | exact z.2.2.2.2.2 | exact Zs z.2.2.2.2.2 | exact Zl z.2.2.2.2.2 | exact Zg z.2.2.2.2.2 | exact z.2.2.2.2.2.1 | exact Zs z.2.2.2.2.2.1 | exact Zl z.2.2.2.2.2.1 | exact Zg z.2.2.2.2.2.1 | exact z.2.2.2.2.2.2 | exact Zs z.2.2.2.2.2.2 | exact Zl z.2.2.2.2.2.2 | exact Zg z.2.2.2.2.2.2 | exact z.2.2.2.2.2.2.1 | exact Zs z.2.2.2.2.2.2.1 | exact Zl z.2.2.2.2.2.2.1 | exact Zg z.2.2.2.2.2.2.1 | exact z.2.2.2.2.2.2.2 | exact Zs z.2.2.2.2.2.2.2 | exact Zl z.2.2.2.2.2.2.2 | exact Zg z.2.2.2.2.2.2.2 | exact z.2.2.2.2.2.2.2.1 | exact Zs z.2.2.2.2.2.2.2.1 | exact Zl z.2.2.2.2.2.2.2.1 | exact Zg z.2.2.2.2.2.2.2.1 | exact z.2.2.2.2.2.2.2.2 | exact Zs z.2.2.2.2.2.2.2.2 | exact Zl z.2.2.2.2.2.2.2.2 | exact Zg z.2.2.2.2.2.2.2.2 | exact z.2.2.2.2.2.2.2.2.1 | exact Zs z.2.2.2.2.2.2.2.2.1 | exact Zl z.2.2.2.2.2.2.2.2.1 | exact Zg z.2.2.2.2.2.2.2.2.1 | exact z.2.2.2.2.2.2.2.2.2.1 | exact Zs z.2.2.2.2.2.2.2.2.2.1 | exact Zl z.2.2.2.2.2.2.2.2.2.1 | exact Zg z.2.2.2.2.2.2.2.2.2.1 | exact z.2.2.2.2.2.2.2.2.2.2.1 | exact Zs z.2.2.2.2.2.2.2.2.2.2.1 | exact Zl z.2.2.2.2.2.2.2.2.2.2.1 | exact Zg z.2.2.2.2.2.2.2.2.2.2.1 | exact z.2.2.2.2.2.2.2.2.2.2.2.1 | exact Zs z.2.2.2.2.2.2.2.2.2.2.2.1 | exact Zl z.2.2.2.2.2.2.2.2.2.2.2.1 | exact Zg z.2.2.2.2.2.2.2.2.2.2.2.1 | exact z.2.2.2.2.2.2.2.2.2.2.2.2.1 | exact Zs z.2.2.2.2.2.2.2.2.2.2.2.2.1 | exact Zl z.2.2.2.2.2.2.2.2.2.2.2.2.1 | exact Zg z.2.2.2.2.2.2.2.2.2.2.2.2.1 | exact z.2.2.2.2.2.2.2.2.2.2.2.2.2.1 | exact Zs z.2.2.2.2.2.2.2.2.2.2.2.2.2.1 | exact Zl z.2.2.2.2.2.2.2.2.2.2.2.2.2.1 | exact Zg z.2.2.2.2.2.2.2.2.2.2.2.2.2.1 | (clear z; (k_extra "mine:pj"))))
  k_with "mine:ne" => (first | (with_reducible assumption) | exact Ne.symm (by with_reducible assumption) | exact ne_lt (by with_reducible assumption) | exact ne_gt (by with_reducible assumption) | exact ne_lt (lt_led (by with_reducible assumption) (by k_mem)) | exact ne_gt (lt_led (by with_reducible assumption) (by k_mem)) | ((try dsimp only); with_reducible (k_extra "mine:pj")) | assumption | exact Nat.ne_of_lt (Nat.lt_succ_self _) | exact Nat.ne_of_gt (Nat.lt_succ_self _) | (walk_say "K_NE OMEGA"; refine neN ?_; (try dsimp only); omega))
  k_with "mine:nes" => (first | (refine And.intro ?_ ?_ <;> (k_extra "mine:nes")) | k_ne)
  k_with "mine:in" => (first | (with_reducible exact List.mem_cons_self) | (with_reducible assumption) | ((with_reducible refine List.mem_cons_of_mem _ ?_); (k_extra "mine:in")) | exact List.mem_cons_self | (refine List.mem_cons_of_mem _ ?_; (k_extra "mine:in")) | (refine List.mem_append_left _ ?_; (k_extra "mine:in")) | (refine List.mem_append_right _ ?_; (k_extra "mine:in")))
  k_with "mine:sub" => (first | (with_reducible exact sub_id) | (with_reducible exact sub_nil) | ((with_reducible refine sub_cons ?haW7 ?hbW7); (case haW7 => (k_extra "mine:in")); (case hbW7 => (k_extra "mine:sub"))) | ((with_reducible refine sub_both ?haW7 ?hbW7); (case haW7 => (k_extra "mine:sub")); (case hbW7 => (k_extra "mine:sub"))) | ((with_reducible refine sub_skip ?_); (k_extra "mine:sub")) | ((with_reducible refine sub_right ?_); (k_extra "mine:sub")) | ((with_reducible refine sub_left ?_); (k_extra "mine:sub")) | (simp only [List.nil_append, List.cons_append]; (k_extra "mine:sub")))
  k_with "mine:keys" => (first | (k_dflt (exact keys_of rfl rfl)) | (walk_say "K_KEYS LONG"; repeat (first | exact True.intro | refine And.intro ⟨_, _, rfl, rfl⟩ ?_)))
  k_with "mine:enter0" => ((refine' enter0 ?k1W7 ?k2W7 ?k3W7 ?k4W7 ?kKW7 ?k8W7 ?k6W7 ?k7W7 ?k9W7 ?kBW7 ?_ ?c2W7 ?c3W7 ?c4W7 ?c5W7; (case kKW7 => assumption); (case k1W7 => k_asm); (case k2W7 => k_asm); (case k3W7 => k_asm); (case k4W7 => k_asm); (case k6W7 => k_is); (case k7W7 => k_is); (case k8W7 => ktr_room); (case k9W7 => exact BindsTo.of_eq rfl); (case c5W7 => decide); (case kBW7 => exact locs rfl); (case c2W7 => exact rfl); (case c3W7 => exact rfl); (case c4W7 => exact rfl); k_whole; intro Lq9 hq9 tkq9 Fq9 Nq9 Bq9 Xq9 Tq9; (try dsimp only); (try k_fold)))
  k_with "mine:ret" => (((all_goals (try dsimp only)); (all_goals (try k_unfold)); (all_goals (try dsimp only))))
  k_with "mine:same" => (first | exact fun _ _ => rfl | exact fun _ _ _ => rfl | exact same_fg | exact same_fgN | (refine same_upY ?_; (k_extra "mine:same")) | (refine same_up (by rfl) ?_; (k_extra "mine:same")) | (refine same_upN (by rfl) ?_; (k_extra "mine:same")) | (intros; (try dsimp only [forget, up]); (repeat' split); all_goals first | rfl | (exfalso; subst_vars; (rename (List.contains _ _ = false) => hz9); (revert hz9); decide) | (exfalso; (rename (List.contains _ _ = false) => hz9); (rename (List.contains _ _ = true) => hz8); rw [hz9] at hz8; exact Bool.noConfusion hz8) | (exfalso; subst_vars; contradiction)))
  trivial
open PySem PySem.W PySem.Calls PySem.Spec PyProof.Rows

section
variable {w : World} {A₀ : Around} {s : Shared} {base h₀ : Heap} {outer : List Env} {L : Addr} {m mg mb : Str → Option Value} {p : Program} {loose : List Str} {mean : ExcName → Option Value}
  {dp un : Nat} {gd : Option (List Code)} {cn : Str} {cs : Scope} {a : Addr} {ccd : Value} {cl : List (Str × Addr)}
set_option maxHeartbeats 4000000 in
theorem spec_idm (B : Below A₀ base outer h₀) (F : Fr h₀ L s.heap m) (X : (hd.heap_1 w.params).In h₀) (T : Top p loose mean mg mb h₀) (hk : cs.kind = .function) (hd : dp + 31 < recursionLimit) (hu : un + 310 < cLine)
    {ps ps2 : Array Value} {ex ex2 : List (Addr × Obj)} (hT : TabSt 73 "_int2digits.<locals>.inner" ps ex) (hT2 : TabSt 88 "_digits2int.<locals>.inner" ps2 ex2)
    (N : News h₀ L s.heap ((38, tabObj ps) :: ex ++ (45, tabObj ps2) :: ex2)) (hC : CodeHd h₀ 42 38) (hC2 : CodeHd h₀ 49 45) (hsep : ∀ p ∈ (38, tabObj ps) :: ex, p.1 ∉ ((45, tabObj ps2) :: ex2).map (·.1))
    {x b : Nat} {tx tb : Tok} (hx : 0 < x ∧ x < 2 ^ 17) (hb : 0 < b ∧ b < 512)
    {k : Nat} (hk1 : 1 ≤ k ∧ k ≤ 17) (hkk : ((Builtin.Int.intBits (x : Int) : Int) + (Builtin.Int.intBits (b : Int) : Nat) - 1).fdiv (Builtin.Int.intBits (b : Int) : Nat) = (k : Int)) :
    codeAny (model Challenge.rw_sn0075_01.row.prog w) (ktrTop dp un gd cn cs L a ccd cl outer) (.call (.ref 64) ⟨[.int x tx, .int b tb], []⟩)
      (RetX (((38, tabObj ps) :: ex ++ (45, tabObj ps2) :: ex2).map (·.1)) s (fun r h' => ∃ D t1 t2 ps' ex' ps2' ex2', r = .ref D ∧ s.heap.get? D = none ∧ h'.get? D = some (tupObj #[.int ((x / b : Nat) : Int) t1, .int ((x % b : Nat) : Int) t2]) ∧
        TabHit 73 "_int2digits.<locals>.inner" ps' ex' ∧ TabHit 88 "_digits2int.<locals>.inner" ps2' ex2' ∧ (∀ q ∈ (38, tabObj ps') :: ex' ++ (45, tabObj ps2') :: ex2', h'.get? q.1 = some q.2) ∧ (∀ q ∈ ex', q ∈ ex ∨ s.heap.get? q.1 = none) ∧ (ex ≠ [] → ex' = ex) ∧ (∀ q ∈ ex2', q ∈ ex2 ∨ s.heap.get? q.1 = none) ∧ (ex2 ≠ [] → ex2' = ex2))) s := by
  revert X; k_fill; intro X
  k_dflt (refine' enterX (news := (38, tabObj ps) :: ex ++ (45, tabObj ps2) :: ex2) B F X T N hk ?k8 ?k6 ?k7 ?k9 ?kB ?_ ?c2 ?c3 ?c4 ?c5; (case k6 => k_is); (case k7 => k_is); (case k8 => ktr_room); (case k9 => exact BindsTo.of_eq rfl); (case c5 => decide); (case kB => exact locs rfl); (case c2 => exact rfl); (case c3 => exact rfl); (case c4 => exact rfl); k_whole; intro g L' h' tk' hg st1 F' N' B' X' T' l1; (try dsimp only); (try k_fold))
  have hC1 := CodeHd.keeps hC st1
  have hC21 := CodeHd.keeps hC2 st1
  have hxi : (0 : Int) < (x : Int) := by omega
  have hbi : (0 : Int) < (b : Int) := by omega
  k_steps
  all_goals try (exfalso; omega)
  (rename Fr _ _ _ _ => kF); (rename News _ _ _ _ => kN)
  refine' use_specX (rest := []) kF kN (X := ((38, tabObj ps) :: ex ++ (45, tabObj ps2) :: ex2).map (·.1)) (apart_of kN) (fun p hp => nomatch hp) ?h0 ?_
  case h0 => exact spec_dmp B' kF X' T' rfl (by ktr_room) (by ktr_units) hT hT2 kN hC1 hC21 hsep hx hb hk1 hkk
  rintro v h2 tk2 F2 N2 E2 ⟨D, t1, t2, ps', ex', ps2', ex2', rfl, hD, hgD, hH1, hH2, hq, hx1, hx2, hx3, hx4⟩
  have hD9 := fresh_chain hg kF kN hD
  have hx1' : ∀ q ∈ ex', q ∈ ex ∨ s.heap.get? q.1 = none := fun q hq => (hx1 q hq).imp id fun h => fresh_chain hg kF kN h
  have hx3' : ∀ q ∈ ex2', q ∈ ex2 ∨ s.heap.get? q.1 = none := fun q hq => (hx3 q hq).imp id fun h => fresh_chain hg kF kN h
  clear kF kN
  k_steps
  (k_extra "mine:ret")
  exact retX hg F2 ⟨D, t1, t2, ps', ex', ps2', ex2', rfl, hD9, hgD, hH1, hH2, hq, hx1', hx2, hx3', hx4⟩
end
end PartS12
section PartSe
open PySem PySem.W PySem.Calls PySem.Spec PyProof.Rows PySem.F
theorem slot_it_next : Slot "set_iterator" "__next__" "set_iterator.__next__" :=
  .of (owner := "set_iterator") (n := "__next__") (by rw [typeLookup_type, builtinLookup_eq_fast]; kernel_rfl) (by decide +kernel) (by decide +kernel) (by decide +kernel)
    (by first | exact .inl (by decide +kernel) | exact .inr (by decide +kernel)) (by rw [isSubtype_type]; kernel_rfl)
theorem entry_set_iter : entryFor table "set.__iter__" = some Builtin.«frozenset.__iter__» :=
  entryFor_alias (id' := "frozenset.__iter__") (by kernel_rfl) rfl (by decide +kernel) (by kernel_rfl)
theorem entry_it_next : entryFor table "set_iterator.__next__" = some Builtin.«set_iterator.__next__» := entryFor_of_tree (by kernel_rfl)
theorem args_it_next (a : Value) : argsOk "set_iterator.__next__" ⟨[a], []⟩ := by
  unfold argsOk; kernel_rfl
theorem slot_it_iter : Slot "set_iterator" "__iter__" "set_iterator.__iter__" :=
  .of (owner := "set_iterator") (n := "__iter__") (by rw [typeLookup_type, builtinLookup_eq_fast]; kernel_rfl) (by decide +kernel) (by decide +kernel) (by decide +kernel)
    (by first | exact .inl (by decide +kernel) | exact .inr (by decide +kernel)) (by rw [isSubtype_type]; kernel_rfl)
theorem entry_it_iter : entryFor table "set_iterator.__iter__" = some Builtin.«dict_keyiterator.__iter__» :=
  entryFor_alias (id' := "dict_keyiterator.__iter__") (by kernel_rfl) rfl (by decide +kernel) (by kernel_rfl)
theorem args_it_iter (a : Value) : argsOk "set_iterator.__iter__" ⟨[a], []⟩ := by
  unfold argsOk; kernel_rfl
/-- do sets of this world follow the text's order -/
noncomputable def byT (w : World) : Bool := w.params.followText "set-order"
/-- a plain set of the heap; the order that the world gives it -/
noncomputable def SetIs (w : World) (h : Heap) (r : Addr) (es : Array (Int × Value)) (ep : Nat) (t : SetTable) : Prop :=
  h.get? r = some { cls := .type "set", dict := none, data := .set es ep t } ∧ t.fits es.size = true ∧ t.plain = true ∧ t.led = !byT w
noncomputable def ordOf (w : World) (r : Addr) (es : Array (Int × Value)) (ep : Nat) : Array (Int × Value) := if byT w = true then pickOrder (w.params.setOrder r ep) es else es
section
variable {prog : Program} {w : World} {A : Around} {E : Value → Shared → Prop} {s : Shared} {r : Addr} {es : Array (Int × Value)} {ep : Nat} {t : SetTable}
theorem wp_byT {Q : Bool → Shared → Prop} (h : Q (byT w) s) : wpAny (model prog w) A setsByText Q E s := by
  unfold setsByText
  exact wpAny_bind (wpAny_askSetting (wpAny_pure h))
theorem SetIs.typeIs (h : SetIs w s.heap r es ep t) : s.TypeIs (.ref r) "set" := ⟨_, h.1, rfl⟩
theorem set_iter {Q : Value → Shared → Prop} (h : SetIs w s.heap r es ep t)
    (hQ : Q (.ref s.heap.objs.size) { s with heap := s.heap.push { cls := .type "set_iterator", data := .fields #[.int 0 0, .int 0 0, .ref r, .int es.size 0, .int ep 0] } }) :
    wpAny (model prog w) A (pyIter (.ref r)) Q E s := by
  refine wpAny_pyIter_slot h.typeIs slot_set_iter (wpAny_call_entry slot_set_iter h.typeIs entry_set_iter ?_ (args_set_iter_1 _))
  obtain ⟨ho, hf, hp, hl⟩ := h
  unfold Builtin.«frozenset.__iter__»
  refine wpAny_bind (wpAny_pure ?_)
  refine wpAny_bind ?_
  unfold Builtin.Frozenset.sizeOf setEntries
  refine wpAny_bind (wpAny_bind (wpAny_setState_of ho rfl hf (wpAny_pure (wpAny_pure ?_))))
  refine wpAny_bind ?_
  unfold setDrawn
  refine wpAny_bind (wpAny_setState_of ho rfl hf ?_)
  dsimp only
  refine wpAny_bind (wp_byT ?_)
  refine wpAny_pure ?_
  rw [if_neg ?hn]
  case hn =>
    show ¬ (!byT w && (!t.plain && decide (es.size > 1))) = true
    rw [hp]
    simp
  refine wpAny_bind (wpAny_pure ?_)
  refine wpAny_bind (wpAny_setEpoch_of ho rfl hf ?_)
  exact wpAny_bind (wpAny_newObj_type (wpAny_pure ⟨_, rfl, "set_iterator", _, ⟨_, Heap.get?_push_size _ rfl, rfl⟩, slot_it_next.lookup, hQ⟩))

/-- the slot that the iterator shows at the i-th turn -/
noncomputable def slotAt (w : World) (t : SetTable) (i : Nat) : Nat := if byT w = true then 0 else if i = 0 then 0 else t.place.getD (i - 1) 0 + 1
noncomputable def SetItIs (w : World) (h : Heap) (it r : Addr) (n ep i : Nat) (t : SetTable) : Prop :=
  h.get? it = some { cls := .type "set_iterator", dict := none, data := .fields #[.int (slotAt w t i) 0, .int i 0, .ref r, .int n 0, .int ep 0] }
theorem SetItIs.typeIs {it : Addr} {n i : Nat} (h : SetItIs w s.heap it r n ep i t) : s.TypeIs (.ref it) "set_iterator" := ⟨_, h, rfl⟩
theorem it_iter {it : Addr} {n i : Nat} {Q : Value → Shared → Prop} (h : SetItIs w s.heap it r n ep i t) (hQ : Q (.ref it) s) : wpAny (model prog w) A (pyIter (.ref it)) Q E s := by
  refine wpAny_pyIter_slot h.typeIs slot_it_iter (wpAny_call_entry slot_it_iter h.typeIs entry_it_iter ?_ (args_it_iter _))
  show wpAny _ _ (ret (.ref it)) _ _ s
  exact wpAny_pure ⟨_, rfl, "set_iterator", _, h.typeIs, slot_it_next.lookup, hQ⟩
theorem set_next {i : Nat} {Q : Option (Value × Nat) → Shared → Prop} (h : SetIs w s.heap r es ep t) (hb : ∀ i ≤ es.size, SetTable.below t.place (if i = 0 then 0 else t.place.getD (i - 1) 0 + 1) = i) (hi : i ≤ es.size)
    (hQ : Q (((ordOf w r es ep)[i]?).map fun e => (e.2, slotAt w t (i + 1))) s) : wpAny (model prog w) A (setNext r (slotAt w t i) i ep) Q E s := by
  obtain ⟨ho, hf, hp, hl⟩ := h
  unfold setNext
  refine wpAny_bind (wpAny_setState_of ho rfl hf ?_)
  dsimp only
  refine wpAny_bind (wp_byT ?_)
  unfold ordOf slotAt at hQ
  cases hbt : byT w with
  | true =>
    rw [hbt] at hQ
    simp only [bne_self_eq_false, Bool.false_eq_true, if_false, if_true] at hQ ⊢
    unfold slotAt
    rw [hbt]
    simp only [if_true]
    unfold setWalk
    refine wpAny_bind (wpAny_bind (wpAny_setState_of ho rfl hf ?_))
    dsimp only
    refine wpAny_bind (wp_byT ?_)
    rw [hbt]
    simp only [if_true]
    refine wpAny_bind (wpAny_askSetting ?_)
    exact wpAny_pure (wpAny_pure hQ)
  | false =>
    rw [hbt] at hQ hl
    simp only [Bool.false_eq_true, if_false, Bool.not_false] at hQ hl ⊢
    rw [if_neg ?hn]
    case hn =>
      show ¬ (!t.plain && decide (es.size > 1)) = true
      rw [hp]; simp
    refine wpAny_bind ?_
    show wpAny _ _ (if (!t.led && !es.isEmpty) = true then unsupported "set:maker-not-led" else pure ()) _ _ _
    rw [hl]
    simp only [Bool.not_true, Bool.false_and, Bool.false_eq_true, if_false]
    refine wpAny_pure ?_
    unfold slotAt
    rw [hbt]
    simp only [Bool.false_eq_true, if_false]
    have e := hb i hi
    rw [e]
    refine wpAny_pure ?_
    have hs : t.place.size = es.size := by
      simp only [SetTable.fits, Bool.and_eq_true, beq_iff_eq] at hf
      exact hf.1
    rcases Nat.lt_or_ge i es.size with h1 | h1
    · have h2 : i < t.place.size := by omega
      rw [Array.getElem?_eq_getElem h1, Array.getElem?_eq_getElem h2]
      rw [Array.getElem?_eq_getElem h1] at hQ
      have e2 : t.place.getD i 0 = t.place[i] := by simp [Array.getD, h2]
      simp only [Option.map_some, Nat.add_sub_cancel, e2, Nat.add_eq_zero_iff, Nat.one_ne_zero, and_false, if_false] at hQ
      exact hQ
    · rw [Array.getElem?_eq_none h1] at hQ ⊢
      exact hQ

theorem item_next {it : Addr} {i : Nat} {Q : Option Value → Shared → Prop} (hit : SetItIs w s.heap it r es.size ep i t) (h : SetIs w s.heap r es ep t) (hb : ∀ i ≤ es.size, SetTable.below t.place (if i = 0 then 0 else t.place.getD (i - 1) 0 + 1) = i) {e : Int × Value} (hx : (ordOf w r es ep)[i]? = some e) (hi : i < es.size)
    (hQ : ∀ h', SetItIs w h' it r es.size ep (i + 1) t → Heap.SameBut it s.heap h' → Q (some e.2) { s with heap := h' }) : wpAny (model prog w) A (pyNext (.ref it)) Q E s := by
  unfold pyNext
  refine wpAny_bind (wpAny_attempt (wpAny_callSpecial?_slot (name := Str.ofString "__next__") hit.typeIs slot_it_next
    (wpAny_call_entry slot_it_next hit.typeIs entry_it_next ?_ (args_it_next _))))
  unfold Builtin.«set_iterator.__next__»
  refine wpAny_bind (wpAny_pure ?_)
  refine wpAny_bind (wpAny_fieldsOf hit rfl ?_)
  refine wpAny_bind ?_
  refine wpAny_setEntries_of h.1 rfl h.2.1 ?_
  simp only [bne_self_eq_false, Bool.false_eq_true, if_false, Int.toNat_natCast]
  refine wpAny_bind (set_next h hb (Nat.le_of_lt hi) ?_)
  rw [hx]
  show wpAny _ _ (setField (.ref it) 0 (rawInt (slotAt w t (i + 1))) >>= _) _ _ s
  refine wpAny_bind (wpAny_setField hit rfl (by simp) ?_)
  have h1 := Heap.get?_update_self (Obj.mapFields (·.setIfInBounds 0 (rawInt (slotAt w t (i + 1))))) hit rfl
  refine wpAny_bind (wpAny_setField h1 (Obj.data_mapFields rfl _) (by simp) ?_)
  have h2 := Heap.get?_update_self (Obj.mapFields (·.setIfInBounds 1 (rawInt ((i : Int) + 1)))) h1 (Obj.isFreed_of_fields (Obj.data_mapFields rfl _))
  exact wpAny_pure ⟨_, rfl, wpAny_pure (hQ _ h2 ((Heap.SameBut.update ..).trans (Heap.SameBut.update ..)))⟩

theorem item_end {it : Addr} {i : Nat} {Q : Option Value → Shared → Prop} (hh : A.handled = none) (hit : SetItIs w s.heap it r es.size ep i t) (h : SetIs w s.heap r es ep t) (hb : ∀ i ≤ es.size, SetTable.below t.place (if i = 0 then 0 else t.place.getD (i - 1) 0 + 1) = i) (hx : (ordOf w r es ep)[i]? = none) (hi : i ≤ es.size)
    (hQ : ∀ h', Heap.ExtBut it s.heap h' → Q none { s with heap := h' }) : wpAny (model prog w) A (pyNext (.ref it)) Q E s := by
  unfold pyNext
  refine wpAny_bind (wpAny_attempt (wpAny_callSpecial?_slot (name := Str.ofString "__next__") hit.typeIs slot_it_next
    (wpAny_call_entry slot_it_next hit.typeIs entry_it_next ?_ (args_it_next _))))
  unfold Builtin.«set_iterator.__next__»
  refine wpAny_bind (wpAny_pure ?_)
  refine wpAny_bind (wpAny_fieldsOf hit rfl ?_)
  refine wpAny_bind ?_
  refine wpAny_setEntries_of h.1 rfl h.2.1 ?_
  simp only [bne_self_eq_false, Bool.false_eq_true, if_false, Int.toNat_natCast]
  refine wpAny_bind (set_next h hb hi ?_)
  rw [hx]
  show wpAny _ _ (setField (.ref it) 2 .none >>= _) _ _ s
  refine wpAny_bind (wpAny_setField hit rfl (by simp) ?_)
  show wpAny _ _ (newExc (.type "StopIteration") [] >>= _) _ _ _
  refine wpAny_bind ?_
  simp only [newExc, newTuple]
  refine wpAny_bind (wpAny_newObj_type ?_ (by size_fits))
  refine wpAny_bind (m := firstArgMember _ _) (wpAny_of_eq (a := Value.none) (by first | rfl | (simp only [firstArgMember]; rfl)) ?_)
  refine wpAny_newObj_type ?_ (by size_fits)
  simp only [raiseNew]
  refine wpAny_bind (wpAny_handled ?_)
  rw [show A.in1.handled = none from hh]
  refine wpAny_bind (wpAny_pure (wpAny_throw ?_))
  refine wpAny_bind (wpAny_isInstance (T := "StopIteration") (b := true) ⟨_, Heap.get?_push_size _ rfl, rfl⟩ isSubtype_stop ?_)
  exact wpAny_pure (hQ _ (((Heap.SameBut.update ..).extBut.push _).push _))
end
theorem get_erase_perm {α : Type} : ∀ (l : List α) (j : Nat) (h : j < l.length), ([l[j]] ++ l.eraseIdx j).Perm l
  | x :: l, 0, _ => List.Perm.refl _
  | x :: l, j + 1, h => by
    have ih := get_erase_perm l j (by simpa using h)
    show (l[j]'(by simpa using h) :: x :: l.eraseIdx j).Perm (x :: l)
    exact (List.Perm.swap _ _ _).trans (List.Perm.cons x ih)
theorem go_perm {α : Type} (next : Nat → Nat) : ∀ (fuel k : Nat) (left : List α) (out : Array α), left.length ≤ fuel → (pickOrder.go next fuel k left out).toList.Perm (out.toList ++ left)
  | 0, _, [], out, _ => by simp [pickOrder.go]
  | 0, _, _ :: _, _, h => by simp at h
  | fuel + 1, k, [], out, _ => by simp [pickOrder.go]
  | fuel + 1, k, x :: l, out, h => by
    unfold pickOrder.go
    have hlt : next k % (x :: l).length < (x :: l).length := Nat.mod_lt _ (by simp)
    rw [List.getElem?_eq_getElem hlt]
    dsimp only
    refine (go_perm next fuel (k + 1) _ _ ?_).trans ?_
    · rw [List.length_eraseIdx_of_lt hlt]; omega
    · rw [Array.toList_push, List.append_assoc]
      refine List.Perm.append_left _ ?_
      generalize next k % (x :: l).length = j at *
      exact get_erase_perm _ j hlt
theorem pick_perm {α : Type} (next : Nat → Nat) (xs : Array α) : (pickOrder next xs).toList.Perm xs.toList := by
  have h := go_perm next xs.size 0 xs.toList #[] (by simp)
  exact h
theorem ord_perm (w : World) (r : Addr) (es : Array (Int × Value)) (ep : Nat) : (ordOf w r es ep).toList.Perm es.toList := by
  unfold ordOf
  split
  · exact pick_perm _ _
  · exact List.Perm.refl _
theorem ord_size (w : World) (r : Addr) (es : Array (Int × Value)) (ep : Nat) : (ordOf w r es ep).size = es.size := by
  have h := (ord_perm w r es ep).length_eq
  simpa using h
section
variable {prog : Program} {w : World} {A : Around} {r : Addr} {es : Array (Int × Value)} {ep : Nat} {t : SetTable}
theorem walks_set (hh : A.handled = none) (I : Addr) (hne : r ≠ I) (hb : ∀ i ≤ es.size, SetTable.below t.place (if i = 0 then 0 else t.place.getD (i - 1) 0 + 1) = i) :
    Walks prog w A I [I, r] [I] es.size (fun i v => ∃ e, (ordOf w r es ep)[i]? = some e ∧ v = e.2) (fun i h => SetItIs w h I r es.size ep i t ∧ SetIs w h r es ep t) where
  sub := fun b hb => by simp at hb; simp [hb]
  frame := fun _ _ _ st hk => ⟨hk I (by simp) _ st.1, hk r (by simp) _ st.2.1, st.2.2⟩
  item := fun i s Q E hi st hQ => by
    have h1 : i < (ordOf w r es ep).size := by rw [ord_size]; exact hi
    refine item_next st.1 st.2 hb (Array.getElem?_eq_getElem h1) hi fun h' hit' hs' => ?_
    exact hQ _ h' s.toks ⟨_, Array.getElem?_eq_getElem h1, rfl⟩ ⟨hit', hs'.extBut r _ hne st.2.1, st.2.2⟩ fun b o hb e => hs'.extBut b o (fun h => hb (by simp [h])) e
  done := fun s Q E st hQ => item_end hh st.1 st.2 hb (Array.getElem?_eq_none (by rw [ord_size]; exact Nat.le_refl _)) (Nat.le_refl _) fun h' he' => hQ h' s.toks fun b o hb e => he' b o (fun h => hb (by simp [h])) e
  self := fun _ _ _ _ st hQ => it_iter st.1 hQ

theorem hint_set {E : Value → Shared → Prop} {s : Shared} {Q : Bool → Shared → Prop} (hT : s.TypeIs (.ref r) "set") (h : Q false s) : wpAny (model prog w) A (Builtin.List.listLengthHint (.ref r)) Q E s := by
  unfold Builtin.List.listLengthHint
  refine wpAny_bind (wpAny_specialOf hT PySem.F.slot_set_len.lookup ?_)
  generalize hid : ("set.__len__" : String) = id0
  wp_delta
  rw [show splitId id0 = some ("set", "__len__") from by subst hid; decide +kernel]
  subst hid
  refine wpAny_bind (wpAny_isInstance (T := "set") (b := true) hT (by rw [isSubtype_type]; kernel_rfl) ?_)
  refine wpAny_ite_split (fun hab => absurd hab (by decide)) (fun _ => ?_)
  refine wpAny_ite_split (fun _ => ?_) (fun hab => absurd (by decide +kernel) hab)
  refine wpAny_bind (wpAny_typeOf hT ?_)
  exact wpAny_pure h
theorem kdl_set (hb : ∀ i ≤ es.size, SetTable.below t.place (if i = 0 then 0 else t.place.getD (i - 1) 0 + 1) = i) :
    KdlSrc prog w "set" r r es.size (fun i v => ∃ e, (ordOf w r es ep)[i]? = some e ∧ v = e.2) (fun h => SetIs w h r es ep t) where
  type := fun _ hm => ⟨_, hm.1, rfl⟩
  there := fun _ hm => ⟨Heap.lt_size hm.1, Heap.lt_size hm.1⟩
  keep := fun _ _ hm hk => ⟨hk r (.inl rfl) _ hm.1, hm.2⟩
  notList := by decide
  notTuple := by decide
  hint := fun _ _ _ _ hm hq => hint_set ⟨_, hm.1, rfl⟩ hq
  iter := fun A s hh hm => ⟨{ cls := .type "set_iterator", dict := none, data := .fields #[.int (slotAt w t 0) 0, .int 0 0, .ref r, .int es.size 0, .int ep 0] }, _, (fun _ _ hq => set_iter hm (by
    have e : slotAt w t 0 = 0 := by unfold slotAt; split <;> rfl
    rw [e] at hq
    exact hq)), walks_set hh _ (Nat.ne_of_lt (Heap.lt_size hm.1)) hb, ⟨Heap.get?_push_size _ rfl, Heap.get?_push_of_some _ hm.1, hm.2⟩⟩

theorem ints_perm {vs vs' : List Value} {ns : List Int} (h : IntsAre vs ns) (p : vs'.Perm vs) : ∃ ns', IntsAre vs' ns' ∧ ns'.Perm ns := by
  refine ⟨vs'.map numOf, ?_, ?_⟩
  · have ha : ∀ v ∈ vs', ∃ n t, v = .int n t := fun v hv => h.all v (p.mem_iff.mp hv)
    clear p
    induction vs' with
    | nil => exact .nil
    | cons v r ih =>
      obtain ⟨n, t, rfl⟩ := ha v (.head _)
      exact .cons _ _ (ih fun u hu => ha u (.tail _ hu))
  · rw [← h.nums]
    exact p.map _
theorem sorted_set {E : Value → Shared → Prop} {s : Shared} {Q : Value → Shared → Prop} {h₀ : Heap} {L : Addr} {m : Str → Option Value} {news : List (Addr × Obj)} {ns ms : List Int} (F : Fr h₀ L s.heap m) (N : News h₀ L s.heap news) (hh : A.handled = none) (hok : SetIs w s.heap r es ep t)
    (hb : ∀ i ≤ es.size, SetTable.below t.place (if i = 0 then 0 else t.place.getD (i - 1) 0 + 1) = i) (hI : IntsAre (es.toList.map (·.2)) ns) (hn : ns.length < 64) (hp : ms.Perm ns) (hs : ms.Pairwise (· ≤ ·))
    (h : ∀ D vs c h' tk, Fr h₀ L h' m → News h₀ L h' ((D, PySem.W.listOf vs.toArray c) :: news) → (∀ q ∈ news, q.1 < D) → IntsAre vs ms → Q (.ref D) { s with heap := h', toks := tk }) :
    wpAny (model prog w) A (call (.builtin "sorted") [.ref r]) Q E s := by
  have hsz : es.size = ns.length := by rw [← hI.length]; simp
  refine kdu_sorted (kdl_set hb) hh F N hok (by rw [sizeLine_eq]; omega) fun D h' tk vs F' N' l1 hl hv => ?_
  have hvs : vs = (ordOf w r es ep).toList.map (·.2) := by
    apply List.ext_getElem?
    intro j
    rcases Nat.lt_or_ge j vs.length with h1 | h1
    · rw [List.getElem?_eq_getElem h1]
      obtain ⟨e, he, hve⟩ := hv j _ (List.getElem?_eq_getElem h1)
      rw [List.getElem?_map, Array.getElem?_toList, he, hve]; rfl
    · rw [List.getElem?_eq_none h1, List.getElem?_eq_none]
      rw [List.length_map, Array.length_toList, ord_size]; omega
  obtain ⟨ns1, hI1, hp1⟩ := ints_perm (vs' := vs) hI (by rw [hvs]; exact (ord_perm w r es ep).map _)
  refine ksk_lsort F' N' (fun o => Upd.head (fun p hp => neN (Nat.ne_of_lt (l1 p hp)))) (by simp) hI1 (by rw [hp1.length_eq]; exact hn) fun vs2 ns2 c h2 F2 N2 hI2 hl2 hp2 hs2 _ => ?_
  have e : ns2 = ms := lks_uniq ((hp2.trans hp1).trans hp.symm) hs2 hs
  subst e
  exact h D vs2 c h2 tk F2 N2 l1 hI2
end
end PartSe
section PartSf
open PySem PySem.W PySem.Calls PySem.Spec PyProof.Rows PySem.F
noncomputable abbrev emptyS (w : World) : Obj := { cls := .type "set", dict := none, data := .set #[] 0 (.fresh 0 0 (!byT w)) }
noncomputable def Hide (P : Prop) : Prop := P
section
variable {prog : Program} {w : World} {A : Around} {E : Value → Shared → Prop} {s : Shared}
set_option maxHeartbeats 1000000 in
theorem new_led {Q₁ : Value → Shared → Prop} (h : Q₁ (.ref s.heap.objs.size) { s with heap := s.heap.push (emptyS w) }) :
    codeAny (model prog w) A (.call (.builtin "set.__new__") ⟨[.type "set"], []⟩) (wants Q₁ E) s := by
  refine codeAny_of_tree ?_
  show wpAny _ A.in1 (do checkBuiltinCall "set.__new__" ⟨[.type "set"], []⟩; again (.builtin "set.__new__" ⟨[.type "set"], []⟩)) _ _ s
  refine wpAny_bind (wpAny_of_eq newCall_set_0 (wpAny_pure ⟨plainId_quiet plain_set_new _, codeAny_builtin PySem.F.entry_set_new ?_⟩))
  rw [Around.under_plainId plain_set_new _]
  unfold Builtin.«set.__new__» Builtin.Frozenset.newClass
  have hsub := sub_set_self
  obtain ⟨hp, g, d, tk, os⟩ := s
  dsimp only
  wp_walk
  refine wpAny_askSetting (wpAny_pure ?_)
  dsimp only
  simp only [newObj]
  exact wpAny_bind (wpAny_alloc (wpAny_pure (wpAny_pure h)))
set_option maxHeartbeats 1000000 in
theorem call_set_led {Q : Value → Shared → Prop} (h : Q (.ref s.heap.objs.size) { s with heap := s.heap.push (emptyS w) }) :
    wpAny (model prog w) A (call (.type "set") []) Q E s := by
  obtain ⟨c, tl, hmro⟩ := called_set.mro
  have hmade := called_set.made
  have hsub := called_set.sub
  have hnt := called_set.notType
  have hcc : Hide _ := called_set.canCreate
  have hct := typeCall_set_0
  refine wpAny_call (codeAny_of_tree ?_)
  show wpAny _ _ (callAny (.type "set") _) _ _ _
  refine wpAny_pure ⟨Code.quiet_builtin _ (by decide +kernel), codeAny_builtin PySem.F.entry_type_call ?_⟩
  rw [Around.under_plain (weight_type_call_type "set" [] []) rfl]
  repeat (any_goals (first | assumption | wp_step))
  refine codeAny_mono (new_led (E := E) (Q₁ := fun obj s₁ => obj = .ref s.heap.objs.size ∧ s₁ = { s with heap := s.heap.push (emptyS w) }) ⟨rfl, rfl⟩) fun r s₁ hr => ?_
  rcases r with e | fl
  · exact hr
  · cases fl <;> first
      | exact hr.elim
      | skip
    obtain ⟨rfl, rfl⟩ := hr
    have hT : Shared.TypeIs { s with heap := s.heap.push (emptyS w) } (.ref s.heap.objs.size) "set" := ⟨_, Heap.get?_push_size _ rfl, rfl⟩
    have hli := called_set.init.lookup
    have hbi := called_set.init.bind (.ref s.heap.objs.size)
    repeat (any_goals (first | assumption | wp_step))
    refine codeAny_mono (codeAny_call_builtin (R := wants (fun r s₂ => r = .none ∧ Q (.ref s.heap.objs.size) s₂) E) called_set.init.plain entry_set_init (check_set_init hT ?_)) fun r₂ s₂ hr₂ => ?_
    · unfold Builtin.«set.__init__» noKeywords
      wp_walk
      exact ⟨rfl, h⟩
    · rcases r₂ with e | fl₂
      · exact hr₂
      · cases fl₂ <;> first
          | exact hr₂.elim
          | skip
        obtain ⟨rfl, hq⟩ := hr₂
        repeat (any_goals (first | assumption | wp_step))
end
end PartSf
section PartSg
open PySem PySem.W PySem.Calls PySem.Spec PyProof.Rows
noncomputable abbrev setO (es : Array (Int × Value)) (ep : Nat) (t : SetTable) : Obj := { cls := .type "set", dict := none, data := .set es ep t }
section
variable {prog : Program} {w : World} {A : Around} {E : Value → Shared → Prop} {s : Shared} {h₀ : Heap} {L sa : Addr} {m : Str → Option Value} {news news' : List (Addr × Obj)} {es es1 : Array (Int × Value)} {ep : Nat} {t t1 : SetTable} {k : Int} {tk : Tok}
theorem scan_absent {x : Value} {h : Int} : ∀ (l : List (Int × Value)) (i : Nat) {s : Shared} {Q : ScanMet → Shared → Prop}, l.all (fun e => !(e.1 == h)) = true → Q .absent s → wpAny (model prog w) A (setScanFrom sa x h true l i) Q E s
  | [], _, _, _, _, q => wpAny_pure q
  | (h', y) :: r, i, s, Q, ha, q => by
    rw [List.all_cons, Bool.and_eq_true] at ha
    unfold setScanFrom
    have e : (h' == h) = false := by simpa using ha.1
    rw [e]
    simp only [Bool.false_eq_true, if_false]
    exact scan_absent r (i + 1) ha.2 q
/-- set.add of an int that the set lacks, with the table that it leaves -/
theorem add_new {Q : Value → Shared → Prop} (F : Fr h₀ L s.heap m) (N : News h₀ L s.heap news) (U : Upd sa (setO es ep t) (setO es1 (ep + 1) t1) news news') (hf : t.fits es.size = true) (hp : t.plain = true) (hsc : byScan (.int k tk) es = true)
    (habs : es.toList.all (fun e => !(e.1 == hashInt k)) = true) (hlay : layNew t es (hashInt k) (.int k tk) = (es1, t1, false, false)) (hfull : t1.tooFull = false) (hp1 : t1.plain = true) (hz : es1.size ≤ sizeLine)
    (h : ∀ h', Fr h₀ L h' m → News h₀ L h' news' → Q .none { s with heap := h', toks := s.toks + 1 }) : wpAny (model prog w) A (call (.builtin "set.add") [.ref sa, .int k tk]) Q E s := by
  obtain ⟨pre, post, rfl, rfl, a, c⟩ := U.split
  have z := N (sa, setO es ep t) (List.mem_append.mpr (.inr (.head _)))
  refine wpAny_call_entry PySem.F.slot_set_add ⟨_, z.1, rfl⟩ PySem.F.entry_set_add ?_ (PySem.F.args_set_add_2 _ _)
  unfold Builtin.«set.add» Builtin.Frozenset.oneOther
  simp only [List.isEmpty_nil, bind_assoc]
  unfold Builtin.Frozenset.addrOf setAdd
  refine wpAny_bind (wpAny_pure ?_)
  try dsimp only
  refine wpAny_bind (wpAny_pure ?_)
  try dsimp only
  refine wpAny_bind ?_
  refine wpAny_holding ?_
  refine wpAny_bind ((PySem.intKind prog w).pyHash (intKind_is _ _ _ _) ?_)
  unfold setAddHashed setAddHashedIn
  refine wpAny_holding (wpAny_bind (wpAny_setState_of (s := { s with toks := s.toks + 1 }) z.1 rfl hf ?_))
  dsimp only
  rw [hsc]
  simp only [↓reduceIte]
  unfold setAddByScan
  refine wpAny_bind ?_
  refine wpAny_bind (wpAny_rule ?_)
  refine wpAny_bind ?_
  show wpAny _ _ (setScanFrom sa (.int k tk) (hashInt k) true es.toList 0) _ _ _
  refine scan_absent _ _ habs ?_
  dsimp only
  rw [show (PySem.intKind prog w).hash k = hashInt k from rfl, hlay]
  dsimp only
  refine wpAny_bind (wpAny_pure ?_)
  rw [if_pos hp1]
  refine wpAny_bind ?_
  rw [hashByValue_scannable 8 (by rfl)]
  refine wpAny_pure ?_
  simp only [plainKind, ↓reduceIte]
  refine wpAny_bind (wpAny_storeSet_of (s := { s with toks := s.toks + 1 }) z.1 rfl ?_ hz)
  rw [hfull]
  simp only [Bool.and_false, Bool.false_eq_true, if_false]
  refine wpAny_pure (wpAny_pure ?_)
  have e1 : (s.heap.update sa (Obj.putSet es1 t1)).get? sa = some (setO es1 (ep + 1) t1) := by
    have := Heap.get?_update_self (Obj.putSet es1 t1) z.1 (by rfl)
    exact this
  refine wpAny_pure ⟨_, rfl, h _ (F.change (Heap.SameBut.update ..) z.2.1 z.2.2) (N.setIn (fun p hp => a p hp) (fun p hp => c p hp) (Heap.SameBut.update ..) e1)⟩
end
end PartSg
section PartSh
open PySem PySem.W PySem.Calls PySem.Spec PyProof.Rows
section
variable {prog : Program} {w : World} {A : Around} {E : Value → Shared → Prop} {s : Shared} {h₀ : Heap} {L sa : Addr} {m : Str → Option Value} {news : List (Addr × Obj)} {so : Obj} {g : Obj → List (Addr × Obj)} {S : Int → Bool} {k : Int}
theorem choose_one {Q : Nat → Shared → Prop} (h : Q 0 { s with drawn := s.drawn.bump .order }) : wpAny (model prog w) A (choose .order 1) Q E s := by
  intro Γ p hΓ
  show Sem.wp _ _ (.choose .order 1 .pure) _ _ _ _
  rw [Sem.wp_choose]
  refine ⟨by decide, ?_⟩
  rw [Nat.mod_one]
  exact h
theorem popPlace_one {t : SetTable} (h : t.place.size = 1) : t.popPlace = some 0 := by
  unfold SetTable.popPlace
  have e : t.place.isEmpty = false := by
    rw [Array.isEmpty_eq_false_iff]
    intro h0
    rw [h0] at h
    simp at h
  rw [e]
  simp only [Bool.false_eq_true, if_false]
  congr 1
  rw [h]
  split
  · omega
  · rfl
theorem pop_fits {t : SetTable} (h : t.fits 1 = true) : (t.popped 0).fits 0 = true := by
  have h1 : t.place.size = 1 ∧ t.fill ≤ t.mask := by simpa [SetTable.fits] using h
  obtain ⟨h1, h2⟩ := h1
  unfold SetTable.popped SetTable.drop
  have e : t.place[0]? = some t.place[0] := Array.getElem?_eq_getElem (by omega)
  rw [e]
  unfold SetTable.fits SetTable.fill at *
  simp [SetTable.eraseAt, SetTable.insertAt, h1]
  omega

theorem pop_one {Q : Value → Shared → Prop} (F : Fr h₀ L s.heap m) (N : News h₀ L s.heap news) (U : UpdF sa so news g) (hso : so.SetObjOf (PySem.intKind prog w) S 1) (hS : S k = true)
    (h : ∀ h' so' tv dn, Fr h₀ L h' m → News h₀ L h' (g so') → so'.SetObjOf (PySem.intKind prog w) (fun _ => false) 0 → Q (.int k tv) { s with heap := h', drawn := dn }) : wpAny (model prog w) A (call (.builtin "set.pop") [.ref sa]) Q E s := by
  obtain ⟨pre, post, rfl, hg, a, c⟩ := U.split
  have z := N (sa, so) (List.mem_append.mpr (.inr (.head _)))
  obtain ⟨hex, es, ep, t, hd, hel, hmem, hn, hf⟩ := hso
  rw [hn] at hf
  obtain ⟨e, he, hke⟩ := (hmem k).mp hS
  have hes : es = #[e] := by
    have h1 : es.toList.length = 1 := by simpa using hn
    obtain ⟨e', h2⟩ := List.length_eq_one_iff.mp h1
    rw [h2] at he
    rw [List.mem_singleton.mp he]
    apply Array.toList_inj.mp
    rw [h2]
  subst hes
  obtain ⟨tv, hv⟩ := Value.isInt_shape hke
  have hplace : t.place.size = 1 := by
    simp only [SetTable.fits, Bool.and_eq_true, beq_iff_eq] at hf
    exact hf.1
  have hend : ∀ dn, wpAny (model prog w) A.in1 (storeSet sa (SetTable.eraseAt #[e] 0) (t.popped 0)) (fun _ s' => Q (.int k tv) s') E { s with drawn := dn } := by
    intro dn
    refine wpAny_storeSet_of (s := { s with drawn := dn }) z.1 hd ?_ (by rw [sizeLine_eq]; show 0 ≤ _; omega)
    have e1 := Heap.get?_update_self (Obj.putSet (SetTable.eraseAt #[e] 0) (t.popped 0)) z.1 (by rw [putSet_of _ _ hd]; rfl)
    rw [putSet_of _ _ hd] at e1
    refine h _ { so with data := .set (SetTable.eraseAt #[e] 0) (ep + 1) (t.popped 0) } tv dn (F.change (Heap.SameBut.update ..) z.2.1 z.2.2) (hg _ ▸ N.setIn (fun p hp => a p hp) (fun p hp => c p hp) (Heap.SameBut.update ..) e1) ⟨⟨hex.1, hex.2.1, hex.2.2⟩, _, _, _, rfl, fun x hx => ?_, fun k' => ?_, rfl, pop_fits hf⟩
    · have e2 : (SetTable.eraseAt #[e] 0).toList = [] := rfl
      rw [e2] at hx; cases hx
    · have e2 : (SetTable.eraseAt #[e] 0).toList = [] := rfl
      rw [e2]; simp
  refine wpAny_call_entry PySem.F.slot_set_pop ⟨_, z.1, hex.1⟩ PySem.F.entry_set_pop ?_ (PySem.F.args_set_pop_1 _)
  unfold Builtin.«set.pop» Builtin.Frozenset.noArgs
  simp only [List.isEmpty_nil, bind_assoc]
  unfold Builtin.Frozenset.addrOf setPop
  refine wpAny_bind (wpAny_pure ?_)
  simp only [bind_assoc]
  refine wpAny_bind (wpAny_setState_of z.1 hd hf ?_)
  dsimp only
  rw [popPlace_one hplace]
  dsimp only
  refine wpAny_bind ?_
  refine wpAny_bind (wp_byT ?_)
  split
  · refine wpAny_bind (choose_one ?_)
    refine wpAny_bind (wpAny_mono (hend _) (fun _ s' hq => ?_) fun _ _ x => x)
    exact wpAny_pure (by rw [hv]; exact wpAny_pure ⟨_, rfl, hq⟩)
  · refine wpAny_bind ?_
    show wpAny _ _ (if (!t.led && decide ((#[e] : Array (Int × Value)).size > 1)) = true then unsupported "set:maker-not-led" else pure ()) _ _ _
    rw [if_neg (by simp)]
    refine wpAny_pure ?_
    refine wpAny_bind (wpAny_pure ?_)
    refine wpAny_bind (wpAny_mono (hend s.drawn) (fun _ s' hq => ?_) fun _ _ x => x)
    exact wpAny_pure (by rw [hv]; exact wpAny_pure ⟨_, rfl, hq⟩)
end
end PartSh
section PartSi
open PySem PySem.W PySem.Calls PySem.Spec PyProof.Rows
theorem noBool_set : typeLookup (.type "set") "__bool__" = pure none := by rw [typeLookup_type, builtinLookup_eq_fast]; kernel_rfl
section
variable {prog : Program} {w : World} {A : Around} {E : Value → Shared → Prop} {s : Shared} {h₀ : Heap} {L sa : Addr} {m : Str → Option Value} {news : List (Addr × Obj)} {so : Obj} {g : Obj → List (Addr × Obj)} {S : Int → Bool} {n : Nat}
theorem truthy_set {Q : Bool → Shared → Prop} (N : News h₀ L s.heap news) (U : UpdF sa so news g) (hso : so.SetObjOf (PySem.intKind prog w) S n) (hfit : (n : Int) < 2 ^ 63)
    (h : Q (decide (n ≠ 0)) { s with toks := s.toks + 1 + 1 }) : wpAny (model prog w) A (truthy (.ref sa)) Q E s := by
  obtain ⟨pre, post, rfl, hg, a, c⟩ := U.split
  have z := N (sa, so) (List.mem_append.mpr (.inr (.head _)))
  obtain ⟨hex, es, ep, t, hd, hel, hmem, hn, hf⟩ := hso
  have hT : s.TypeIs (.ref sa) "set" := ⟨so, z.1, hex.1⟩
  have hne : ((n : Int) != 0) = decide (n ≠ 0) := by
    cases n with
    | zero => rfl
    | succ k => simp; omega
  have key : wpAny (model prog w) A (runValue (.builtin "len" ⟨[.ref sa], []⟩)) (fun r s' => r = .int n (s.toks + 1) ∧ Q (decide (n ≠ 0)) s') E s := by
    refine wpAny_runValue (codeAny_builtin PySem.entry_len ?_)
    rw [Around.under_plainId PySem.plain_len _]
    exact wpAny_mono (wpAny_len_body_set (Q := fun r s' => r = .int n (s.toks + 1) ∧ Q (decide (n ≠ 0)) s') z.1 hex hd hf (by rw [hn]; exact hfit) ⟨by rw [hn], h⟩)
      (fun fin s' h' => by obtain ⟨r, rfl, hq⟩ := h'; exact hq) fun _ _ e => e
  unfold truthy
  first
    | refine wpAny_bind (wpAny_callSpecial?_none (name := Str.ofString "__bool__") hT noBool_set ?_)
    | refine wpAny_bind (wpAny_pure (wpAny_bind (wpAny_callSpecial?_none (name := Str.ofString "__bool__") hT noBool_set ?_)))
  first
    | refine wpAny_bind (wpAny_specialOf (name := Str.ofString "__len__") hT PySem.F.slot_set_len.lookup ?_)
    | refine wpAny_bind (wpAny_pure (wpAny_bind (wpAny_specialOf (name := Str.ofString "__len__") hT PySem.F.slot_set_len.lookup ?_)))
  first
    | exact wpAny_bind (wpAny_mono key (fun r s' h' => by obtain ⟨rfl, hq⟩ := h'; exact wpAny_pure (hne ▸ hq)) fun _ _ e => e)
    | exact wpAny_bind (wpAny_pure (wpAny_bind (wpAny_mono key (fun r s' h' => by obtain ⟨rfl, hq⟩ := h'; exact wpAny_pure (hne ▸ hq)) fun _ _ e => e)))
end

section
variable {prog : Program} {w : World} {A : Around} {E : Value → Shared → Prop} {s : Shared} {h₀ : Heap} {L sa : Addr} {m : Str → Option Value} {news news' : List (Addr × Obj)} {so : Obj} {g : Obj → List (Addr × Obj)} {S : Int → Bool} {n : Nat}
theorem pop_method {pl : Sem Bool} {Q : Value × List Value → Shared → Prop} (N : News h₀ L s.heap news) (U : UpdF sa so news g) (hso : so.SetObjOf (PySem.intKind prog w) S n) (hb : n < scanBound) (h : Q (.builtin "set.pop", [.ref sa]) s) :
    wpAny (model prog w) A (getMethod (.ref sa) "pop" pl) Q E s := by
  obtain ⟨pre, post, rfl, hg, a, c⟩ := U.split
  have hS := hso.setOf (N (sa, so) (List.mem_append.mpr (.inr (.head _)))).1 hb
  exact getMethod_builtin hS.typeIs PySem.F.plainAttrs_set PySem.F.slot_set_pop PySem.F.type_set_pop hS.noDict h
theorem set_new_N {Q : Value → Shared → Prop} (F : Fr h₀ L s.heap m) (N : News h₀ L s.heap news)
    (h : ∀ D h', Fr h₀ L h' m → News h₀ L h' ((D, emptyS w) :: news) → (∀ p ∈ news, p.1 < D) → (emptyS w).SetObjOf (PySem.intKind prog w) (fun _ => false) 0 → Q (.ref D) { s with heap := h' }) :
    wpAny (model prog w) A (call (.type "set") []) Q E s :=
  call_set_led (h s.heap.objs.size _ (F.push _) (N.push F _) (fun p hp => Heap.lt_size (N p hp).1) (setObjOf_fresh _))
end

/-- as RetP, but the draws may have moved on -/
noncomputable def RetD (s : Shared) (P : Value → Heap → Prop) (r : Result) (s' : Shared) : Prop :=
  match r with
  | .ok (.ret v) => ∃ h' dn tk, s' = { s with heap := h', drawn := dn, toks := tk } ∧ Ext s.heap h' ∧ P v h'
  | _ => False
section
variable {w : World} {A₀ : Around} {s : Shared} {base h₀ : Heap} {outer : List Env} {L : Addr} {m mg mb : Str → Option Value} {K : Frag} {p : Program} {loose : List Str} {mean : ExcName → Option Value}
  {P : Value → Heap → Prop} {name qual : Str} {params : Arguments} {body : List Stmt} {scope : Scope} {dV kV doc pm cdv ct oc : Value} {an od : Option Addr} {osl : Array (Option Value)} {f : Addr} {args : Args} {binds : List (Str × Value)}
  {dp un : Nat} {gd : Option (List Code)} {cn : Str} {cs : Scope} {a : Addr} {ccd : Value} {cl : List (Str × Addr)} {prog : Program}
theorem enterD (B : Below A₀ base outer h₀) (F : Fr h₀ L s.heap m) (X₀ : K.In h₀) (T : Top p loose mean mg mb h₀) (hke : cs.kind = .function) (hroom : dp < recursionLimit)
    (ho : K.lookup f = some ⟨oc, od, .func (fnOf name qual params body scope dV kV doc pm an cdv ct), osl⟩) (hcd : codeIn K cdv qual = true)
    (hbind : BindsTo s (fnOf name qual params body scope dV kV doc pm an cdv ct) args binds) (hloc : ∀ y ∈ binds, scope.names.lookup y.1 = some .local)
    (h : ∀ L' h₁ tk, Fr s.heap L' h₁ (fun y => binds.reverse.lookup y) → News s.heap L' h₁ [] → Below (ktrTop dp un gd cn cs L a ccd cl outer) base (envX cn cs L a ccd cl :: outer) s.heap → K.In s.heap → Top p loose mean mg mb s.heap →
      wpAny (model prog w) ((ktrTop dp un gd cn cs L a ccd cl outer).deeper (envOf qual scope L' f cdv)) (execs body (envOf qual scope L' f cdv))
        (fun fl s' => RetD s P (.ok (.ret (match fl with | .ret v => v | _ => .none))) s') (fun _ _ => False)
        { s with heap := h₁, toks := tk })
    (hco : scope.isCoroutine = false) (hgen : scope.isGenerator = false) (hk : scope.kind = .function)
    (hcell : ∀ x ∈ scope.names, x.2 ≠ .cell) : codeAny (model prog w) (ktrTop dp un gd cn cs L a ccd cl outer) (.call (.ref f) args) (RetD s P) s := by
  have FG := groundX (R := RetD s P) (A := ktrTop dp un gd cn cs L a ccd cl outer) (env := envX cn cs L a ccd cl) B F (News.nil) rfl rfl hke
  have F₁ : Fr h₀ L s.heap m := FG.1
  have B₁ : Below (ktrTop dp un gd cn cs L a ccd cl outer) base (envX cn cs L a ccd cl :: outer) s.heap := FG.2.1
  refine codeAny_call_def (fd := fnOf name qual params body scope dV kV doc pm an cdv ct) (body := body) (binds := binds) hroom ((X₀.keeps F.keep) _ _ ho) rfl (T.nolimit.keeps F.keep) (codeRec_of (X₀.keeps F.keep) hcd) rfl hbind hcell hloc (fun h₁ hns hk₁ => ?_) hco hgen hk
  exact wpAny_mono (h s.heap.objs.size h₁ _ ⟨hns, hk₁, Nat.le_refl _⟩ News.nil B₁ (X₀.keeps F₁.keep) (T.keeps F₁.keep)) (fun fl s' hl => hl) fun _ _ y => y.elim
end
end PartSi
section PartSj
open PySem PySem.W PySem.Calls PySem.Spec PyProof.Rows
noncomputable abbrev tabP (l : Bool) (ps : Array Nat) : SetTable := { mask := 7, place := ps, dummies := #[], finger := 0, led := l, moves := 0, plain := true }
section
variable {l : Bool} {t1 t2 t3 t4 : Tok}
theorem lay_4 : layNew (.fresh 0 0 l) #[] (hashInt 4) (.int 4 t1) = (#[(4, .int 4 t1)], tabP l #[4], false, false) := by kernel_rfl
theorem lay_42 : layNew (tabP l #[4]) #[(4, .int 4 t1)] (hashInt 2) (.int 2 t2) = (#[(2, .int 2 t2), (4, .int 4 t1)], tabP l #[2, 4], false, false) := by kernel_rfl
theorem lay_421 : layNew (tabP l #[2, 4]) #[(2, .int 2 t2), (4, .int 4 t1)] (hashInt 1) (.int 1 t3) = (#[(1, .int 1 t3), (2, .int 2 t2), (4, .int 4 t1)], tabP l #[1, 2, 4], false, false) := by kernel_rfl
theorem lay_8 : layNew (.fresh 0 0 l) #[] (hashInt 8) (.int 8 t4) = (#[(8, .int 8 t4)], tabP l #[0], false, false) := by kernel_rfl
theorem lay_84 : layNew (tabP l #[0]) #[(8, .int 8 t4)] (hashInt 4) (.int 4 t1) = (#[(8, .int 8 t4), (4, .int 4 t1)], tabP l #[0, 4], false, false) := by kernel_rfl
theorem lay_842 : layNew (tabP l #[0, 4]) #[(8, .int 8 t4), (4, .int 4 t1)] (hashInt 2) (.int 2 t2) = (#[(8, .int 8 t4), (2, .int 2 t2), (4, .int 4 t1)], tabP l #[0, 2, 4], false, false) := by kernel_rfl
theorem lay_8421 : layNew (tabP l #[0, 2, 4]) #[(8, .int 8 t4), (2, .int 2 t2), (4, .int 4 t1)] (hashInt 1) (.int 1 t3) = (#[(8, .int 8 t4), (1, .int 1 t3), (2, .int 2 t2), (4, .int 4 t1)], tabP l #[0, 1, 2, 4], false, false) := by kernel_rfl
end
section
variable {prog : Program} {w : World} {A : Around} {E : Value → Shared → Prop} {s : Shared} {h₀ : Heap} {L sa : Addr} {m : Str → Option Value} {news : List (Addr × Obj)} {g : Obj → List (Addr × Obj)} {es es1 : Array (Int × Value)} {ep : Nat} {t t1 : SetTable} {k : Int} {tk : Tok} {S : Int → Bool} {n : Nat}
theorem upd_at {d : Addr} {o o' : Obj} {post : List (Addr × Obj)} (c : ∀ p ∈ post, p.1 ≠ d) : ∀ {pre : List (Addr × Obj)}, (∀ p ∈ pre, p.1 ≠ d) → Upd d o o' (pre ++ (d, o) :: post) (pre ++ (d, o') :: post)
  | [], _ => .head c
  | p :: pre, a => .tail (a p (.head _)) (upd_at c fun q hq => a q (.tail _ hq))
theorem upd_mid {d : Addr} {o o' : Obj} {pre post : List (Addr × Obj)} {g : Obj → List (Addr × Obj)} (hg : ∀ o', g o' = pre ++ (d, o') :: post) (a : ∀ p ∈ pre, p.1 ≠ d) (c : ∀ p ∈ post, p.1 ≠ d) : Upd d o o' (pre ++ (d, o) :: post) (g o') := by
  rw [hg]; exact upd_at c a
theorem add_led {Q : Value → Shared → Prop} (F : Fr h₀ L s.heap m) (N : News h₀ L s.heap news) (U : UpdF sa (setO es ep t) news g) (hso : (setO es ep t).SetObjOf (PySem.intKind prog w) S n) (hlay : layNew t es (hashInt k) (.int k tk) = (es1, t1, false, false)) (hn : n < 100)
    (hp : t.plain = true) (habs : es.toList.all (fun e => !(e.1 == hashInt k)) = true) (hfull : t1.tooFull = false) (hp1 : t1.plain = true)
    (h : ∀ h', Fr h₀ L h' m → News h₀ L h' (g (setO es1 (ep + 1) t1)) → (setO es1 (ep + 1) t1).SetObjOf (PySem.intKind prog w) (fun k' => S k' || decide (k' = k)) (n + 1) → Q .none { s with heap := h', toks := s.toks + 1 }) :
    wpAny (model prog w) A (call (.builtin "set.add") [.ref sa, .int k tk]) Q E s := by
  obtain ⟨pre, post, rfl, hg, a, c⟩ := U.split
  obtain ⟨hex, es', ep', t', hd, hel, hmem, hsz, hf⟩ := hso
  cases hd
  have hperm := layNew_perm t es (hashInt k) (.int k tk)
  have hfits := layNew_fits t es (hashInt k) (.int k tk)
  rw [hlay] at hperm hfits
  dsimp only at hperm hfits
  rw [Array.toList_push] at hperm
  have hl1 : es1.size = n + 1 := by
    have := hperm.length_eq
    simp only [List.length_append, Array.length_toList, List.length_cons, List.length_nil] at this
    omega
  refine add_new (ep := ep) F N (upd_mid hg a c) hf hp (byScan_of (knd := PySem.intKind prog w) (by rfl) (by unfold scanBound; omega) hel) habs hlay hfull hp1 (by rw [sizeLine_eq]; omega) (fun h' F' N' => h h' F' N' ⟨⟨rfl, rfl, rfl⟩, es1, ep + 1, t1, rfl, ?_, ?_, hl1, hfits⟩)
  · exact (ElemsOf.push hel (intKind_is prog w k tk) rfl).perm hperm
  · exact fun k' => mem_push_iff (intKind_is prog w k tk) hmem hperm k'
end
end PartSj
section PartSk
open PySem PySem.W PySem.Calls PySem.Spec PyProof.Rows
/-- the list iterator's object: of list D, at place i -/
noncomputable def LitO (o : Obj) (D : Addr) (i : Nat) : Prop := o.cls = .type "list_iterator" ∧ o.data = .fields #[.ref D, .int i 0]
section
variable {prog : Program} {w : World} {A : Around} {E : Value → Shared → Prop} {s : Shared} {h₀ : Heap} {L D I : Addr} {m : Str → Option Value} {news : List (Addr × Obj)} {lo io : Obj} {vs : List Value} {n i : Nat} {g : Obj → List (Addr × Obj)}
theorem list_iter_new {Q : Value → Shared → Prop} (F : Fr h₀ L s.heap m) (N : News h₀ L s.heap news) (hm : (D, lo) ∈ news) (hc : lo.cls = .type "list") (hd : lo.data = .seq vs.toArray n)
    (h : ∀ (I : Addr) h' oI, Fr h₀ L h' m → News h₀ L h' ((I, oI) :: news) → (∀ p ∈ news, p.1 < I) → LitO oI D 0 → Q (.ref I) { s with heap := h' }) :
    wpAny (model prog w) A (call (.builtin "iter") [.ref D]) Q E s := by
  refine call_function_entry (by decide +kernel) (by decide +kernel) kdk_entry_iter (kdk_args_iter _) ?_
  unfold Builtin.«iter»
  refine wpAny_bind (m := someArgs "iter" 1 2 _) (wpAny_of_eq (a := [Value.ref D]) (by first | rfl | kernel_rfl!) ?_)
  show wpAny _ _ (pyIter (.ref D) >>= _) _ _ _
  refine wpAny_bind (wpAny_pyIter_list (items := vs.toArray) ⟨lo, (N _ hm).1, hc, n, hd⟩ ?_)
  exact wpAny_pure ⟨_, rfl, h _ _ _ (F.push _) (News.push F N _ rfl) (fun q hq => Heap.lt_size (N q hq).1) ⟨rfl, rfl⟩⟩
theorem list_next {x : Value} {Q : Value → Shared → Prop} (F : Fr h₀ L s.heap m) (N : News h₀ L s.heap news) (U : UpdF I io news g) (hi : LitO io D i) (hm : (D, lo) ∈ news) (hc : lo.cls = .type "list") (hdl : lo.data = .seq vs.toArray n) (hx : vs[i]? = some x)
    (h : ∀ h' o', Fr h₀ L h' m → News h₀ L h' (g o') → LitO o' D (i + 1) → Q x { s with heap := h' }) :
    wpAny (model prog w) A (call (.builtin "next") [.ref I]) Q E s := by
  obtain ⟨pre, post, hl, hg, a, b⟩ := U.split
  have hmem : (I, io) ∈ news := by rw [hl]; exact List.mem_append_right _ (.head _)
  have hmI := N (I, io) hmem
  have ho := hmI.1
  have hd := hi.2
  have hit : s.heap.IsListIter I D i := ⟨io, ho, hi.1, hi.2⟩
  have hol := (N _ hm).1
  have hx' : vs.toArray[i]? = some x := by simpa using hx
  refine call_function_entry (by decide +kernel) (by decide +kernel) kdk_entry_next (kdk_args_next _) ?_
  unfold Builtin.«next»
  refine wpAny_bind (m := someArgs "next" 1 2 _) (wpAny_of_eq (a := [Value.ref I]) (by first | rfl | kernel_rfl!) ?_)
  dsimp only
  refine wpAny_bind (wpAny_specialOf (name := Str.ofString "__next__") hit.typeIs slot_listiter_next.lookup ?_)
  refine wpAny_ite_split (fun hab => absurd hab (by decide)) (fun _ => ?_)
  refine wpAny_bind (wpAny_callSpecial?_slot (name := Str.ofString "__next__") hit.typeIs slot_listiter_next
    (wpAny_call_entry slot_listiter_next hit.typeIs entry_listiter_next ?_ (args_listiter_next _)))
  show wpAny _ _ (field (.ref I) 0 >>= _) _ _ s
  refine wpAny_bind (wpAny_field ho hd (x := .ref D) rfl ?_)
  show wpAny _ _ (if (Value.ref D == Value.none) = true then _ else _) _ _ s
  rw [if_neg (show ¬ ((Value.ref D == Value.none) = true) from Bool.false_ne_true)]
  show wpAny _ _ (field (.ref I) 1 >>= _) _ _ s
  refine wpAny_bind (wpAny_field ho hd (x := .int i 0) rfl ?_)
  show wpAny _ _ (seqItems? (.ref D) >>= _) _ _ s
  refine wpAny_bind (wpAny_seqItems hol hdl ?_)
  simp only [Int.toNat_natCast, hx']
  refine wpAny_bind (wpAny_setField ho hd (by simp) (wpAny_pure ⟨x, rfl, ?_⟩))
  refine wpAny_pure ⟨_, rfl, h _ _ (F.change (Heap.SameBut.update ..) hmI.2.1 hmI.2.2) (hg _ ▸ (show News h₀ L s.heap (pre ++ (I, io) :: post) from hl ▸ N).setIn a b (Heap.SameBut.update ..) (Heap.get?_update_self _ ho (Obj.isFreed_of_fields (Obj.data_mapFields hd _)))) ⟨(Obj.cls_mapFields ..).trans hi.1, ?_⟩⟩
  rw [Obj.data_mapFields hd]; simp [rawInt]
theorem walks_shift {fp wr : List Addr} {P : Nat → Value → Prop} {St : Nat → Heap → Prop} (W : Walks prog w A I fp wr (n + 1) P St) : Walks prog w A I fp wr n (fun i => P (i + 1)) (fun i => St (i + 1)) where
  sub := W.sub
  frame := fun i => W.frame (i + 1)
  item := fun i s Q E hi => W.item (i + 1) s Q E (Nat.succ_lt_succ hi)
  done := W.done
  self := fun i => W.self (i + 1)
end
section
variable {prog : Program} {w : World} {A : Around} {E : Value → Shared → Prop} {s : Shared} {env : Env} {h₀ : Heap} {target : Expr} {body : List Stmt} {Q : Flow → Shared → Prop}
theorem iter_itTurns {D I : Addr} {lo io : Obj} {v : Value} {vs : List Value} {n : Nat} {m₀ : Str → Option Value} {news : List (Addr × Obj)}
    (hh : A.handled = none) (F : Fr h₀ env.locals s.heap m₀) (N : News h₀ env.locals s.heap ((I, io) :: news)) (hi : LitO io D 1) (hm : (D, lo) ∈ news) (hc : lo.cls = .type "list") (hd : lo.data = .seq (v :: vs).toArray n) (hoff : ∀ p ∈ news, p.1 ≠ I)
    (rest₀ : ItemsRest prog w A E h₀ env target body Q s [(I, "list_iterator")] [(D, lo)] (vs.map .val) m₀ news) :
    wpAny (model prog w) A (pyIter (.ref I)) (fun it s₂ => TurnsAt prog w A h₀ env target body Q E it s₂) E s := by
  have hax := N _ (.tail _ hm)
  have hl : s.heap.IsList D (v :: vs).toArray := ⟨lo, hax.1, hc, n, hd⟩
  have hI := N _ (.head _)
  have hit : s.heap.IsListIter I D 1 := ⟨io, hI.1, hi.1, hi.2⟩
  have hne : D ≠ I := hoff _ hm
  refine wpAny_pyIter_listiter hit ?_
  have W0 := Walks.list (prog := prog) (w := w) hh I D hne (v :: vs).toArray
  have e1 : (v :: vs).toArray.size = vs.length + 1 := by simp
  rw [e1] at W0
  have W := KTurns.ofWalks (target := target) (walks_shift W0) fun i v s Q E st q => letGo_listiter st.1 q
  refine ktu_core (hp := s.heap) (tk0 := s.toks) (keep := [(D, lo)]) W (by simp) (fun i v h hp => ⟨.val v, ?_, rfl⟩) (fun i h st => ?_) (fun b hb => ?_) (fun b hb => by simpa using hb) (fun b hb => ?_) ?_ (fun p hp hI' => ?_) ?_ F (fun p hp => N p (.tail _ hp)) (And.intro hm trivial) rest₀
  · simpa using hp
  · obtain ⟨it, hit, hic, _⟩ := st.1
    exact ⟨[(I, it)], ⟨⟨rfl, hic⟩, trivial⟩, fun p hp => by rw [List.mem_singleton.mp hp]; exact hit⟩
  · have hb' : b = I := by simpa using hb
    rw [hb']
    exact ⟨List.mem_cons_self .., hI.2.2⟩
  · have hb' : b = I ∨ b = D := by simpa using hb
    rcases hb' with e | e
    · exact .inl (by simp [e])
    · exact .inr ⟨lo, by simp [e]⟩
  · intro hI'
    rcases List.mem_cons.mp hI' with e | hI'
    · exact hI.2.1 e.symm
    · exact hax.2.1 (List.mem_singleton.mp hI').symm
  · exact hoff p hp (List.mem_singleton.mp hI')
  · exact ⟨hit, by simpa using hl⟩
end
end PartSk
section PartSl
open PySem PySem.W PySem.Calls PySem.Spec PyProof.Rows
noncomputable def whileOf : List Stmt → Option (PySem.Expr × List Stmt)
  | [] => none
  | .While t b _ _ :: _ => some (t, b)
  | _ :: r => whileOf r
/-- the loop of compute_powers: its test and its body -/
noncomputable def powWhile : Option (PySem.Expr × List Stmt × Scope) := match findDef "compute_powers" Challenge.pw_sn0075_01.main.body with
  | some (_, b, sc) => (match whileOf b with
    | some (t, w) => some (t, w, sc)
    | none => none)
  | none => none
theorem known {m : Str → Option Value} {y : Str} {v : Value} (h : m y = some v) : m = fun z => if z = y then some v else m z := by
  funext z
  by_cases h1 : z = y
  · subst h1; rw [if_pos rfl]; exact h
  · rw [if_neg h1]
theorem words_Sl_1 : True := by
  k_with "execs cons" => ((k_here; (with_reducible refine execs_let ?_); intro qk))
  trivial
theorem post_stay {prog : Program} {w : World} {A : Around} {E : Value → Shared → Prop} {s : Shared} {env : Env} {test : PySem.Expr} {body orelse : List Stmt} {Q : Flow → Shared → Prop} {k : Nat} (h : Stay (WhlRest prog w A E env test body orelse Q k s)) : WhlPost prog w A E env test body orelse Q k .next s := h
theorem int_arg {prog : Program} {w : World} {A : Around} {E : Value → Shared → Prop} {Q : Value → Shared → Prop} {s : Shared} {f : Value} {r : Addr} {v v' : Int} {t : Tok} (e : v = v') (h : wpAny (model prog w) A (call f [.ref r, .int v' t]) Q E s) : wpAny (model prog w) A (call f [.ref r, .int v t]) Q E s := e ▸ h
section
variable {w : World} {A₀ : Around} {s : Shared} {base h₀ g : Heap} {outer : List Env} {L L' W1 D1 S1 : Addr} {m0 m mg mb : Str → Option Value} {p : Program} {loose : List Str} {mean : ExcName → Option Value}
  {dp un : Nat} {gd : Option (List Code)} {cn : Str} {cs : Scope} {a : Addr} {ccd : Value} {cl : List (Str × Addr)} {test : PySem.Expr} {body : List Stmt} {sc : Scope} {Q : Flow → Shared → Prop} {o oS oD : Obj} {v lo : Int} {es : Array (Int × Value)} {es1 : Tok → Array (Int × Value)} {ep k n nS : Nat} {t t1 : SetTable} {SD SS : Int → Bool} {tm : Tok}
theorem words_Sl_2 : True := by
  k_with "truthy ref" => ((k_here; (with_reducible show wpAny _ _ (truthy (Value.ref _)) _ _ _); k_dflt (refine' truthy_set ?NW7 ?UW7 ?dW7 ?zW7 ?_; (case NW7 => k_asm); (case UW7 => k_updF); (case dW7 => k_asm); (case zW7 => decide)); (try dsimp only)))
  k_with "getMethod ref" => ((k_here; (with_reducible show wpAny _ _ (getMethod (Value.ref _) (Str.ofString "pop") _) _ _ _); k_dflt (refine' pop_method ?NW7 ?UW7 ?dW7 ?zW7 ?_; (case NW7 => k_asm); (case UW7 => k_updF); (case dW7 => k_asm); (case zW7 => decide))))
  k_with "call builtin:set.pop" => ((k_here; (show wpAny _ _ (call (Value.builtin "set.pop") [Value.ref _]) _ _ _); k_dflt (refine' pop_one ?FW7 ?NW7 ?UW7 ?dW7 ?zW7 ?_; (case FW7 => k_asm); (case NW7 => k_asm); (case UW7 => k_updF); (case dW7 => assumption); (case zW7 => exact decide_eq_true rfl)); intro hq9 oq9 tvq9 dnq9 Fq9 Nq9 hsq9; (try dsimp only at Nq9); (try k_sweep)))
  k_with "call builtin:set.add" => ((k_here; (show wpAny _ _ (call (Value.builtin "set.add") [Value.ref _, Value.int _ _]) _ _ _); (rename (∀ tq9, layNew _ _ _ _ = _) => hl9); (rename (Int.fdiv _ _ = _) => he9); refine' int_arg he9 ?_; k_dflt (refine' add_led ?FW7 ?NW7 ?UW7 ?dW7 ?layW7 ?nW7 ?pW7 ?bW7 ?fW7 ?qW7 ?_; (case FW7 => k_asm); (case NW7 => k_asm); (case UW7 => k_updF); (case layW7 => exact hl9 _); (case dW7 => assumption); (case nW7 => assumption); (case pW7 => assumption); (case bW7 => assumption); (case fW7 => assumption); (case qW7 => assumption)); intro hq9 Fq9 Nq9 hsq9; (try dsimp only at Nq9); (try k_sweep)))
  k_with "WhlPost" => ((with_unfolding_all refine post_stay ?_))
  k_with "truthy int" => (((rename (Builtin.bitAnd _ _ = 0) => hb9); rw [hb9]))
  trivial
set_option maxHeartbeats 4000000 in
theorem pow_turn (he : powWhile = some (test, body, sc)) (B : Below (ktrTop dp un gd cn cs L a ccd cl outer) base (envX cn cs L a ccd cl :: outer) g) (X : (hd.heap_1 w.params).In g) (T' : Top p loose mean mg mb g) (hd1 : dp + 2 < recursionLimit) (hu : un + 30 < cLine)
    (hS : SS v = false) (hv : ¬ v ≤ 1) (hlo : Int.fdiv v (2 ^ Int.toNat 1) = lo) (hev : Builtin.bitAnd v 1 = 0)
    (hso : o.SetObjOf (intKind Challenge.rw_sn0075_01.row.prog w) (fun k' => false || decide (k' = v)) (0 + 1)) (hsd : (setO es ep t).SetObjOf (intKind Challenge.rw_sn0075_01.row.prog w) SD n) (hss : oS.SetObjOf (intKind Challenge.rw_sn0075_01.row.prog w) SS nS)
    (hlay : ∀ t', layNew t es (hashInt lo) (.int lo t') = (es1 t', t1, false, false)) (hn : n < 100) (hnS : nS < 100) (hp : t.plain = true) (habs : es.toList.all (fun e => !(e.1 == hashInt lo)) = true) (hfull : t1.tooFull = false) (hp1 : t1.plain = true)
    (hm1 : m (Str.ofString "ws") = some (.ref W1)) (hm2 : m (Str.ofString "need") = some (.ref D1)) (hm3 : m (Str.ofString "seen") = some (.ref S1)) (hm4 : m (Str.ofString "more_than") = some (.int 1 tm))
    (hne : @Ne Nat W1 D1 ∧ @Ne Nat W1 S1 ∧ @Ne Nat D1 S1)
    (F : Fr g L' s.heap m) (N : News g L' s.heap [(W1, o), (D1, setO es ep t), (S1, oS)])
    (kk : ∀ (o' oS' : Obj) (t' : Tok) (h' : Heap) (dn : Drawn) (tk : Nat) (m' : Str → Option Value), o'.SetObjOf (intKind Challenge.rw_sn0075_01.row.prog w) (fun k' => false || decide (k' = lo)) (0 + 1) → (setO (es1 t') (ep + 1) t1).SetObjOf (intKind Challenge.rw_sn0075_01.row.prog w) (fun k' => SD k' || decide (k' = lo)) (n + 1) →
      oS'.SetObjOf (intKind Challenge.rw_sn0075_01.row.prog w) (fun k' => SS k' || decide (k' = v)) (nS + 1) → (∀ z, z ≠ Str.ofString "w" → z ≠ Str.ofString "lo" → m' z = m z) → Fr g L' h' m' → News g L' h' [(W1, o'), (D1, setO (es1 t') (ep + 1) t1), (S1, oS')] →
      WhlRest Challenge.rw_sn0075_01.row.prog w ((ktrTop dp un gd cn cs L a ccd cl outer).deeper (envOf (Str.ofString "compute_powers") sc L' 22 (.ref 21))) (fun _ _ => False) (envOf (Str.ofString "compute_powers") sc L' 22 (.ref 21)) test body [] Q k { s with heap := h', drawn := dn, toks := tk }) :
    WhlRest Challenge.rw_sn0075_01.row.prog w ((ktrTop dp un gd cn cs L a ccd cl outer).deeper (envOf (Str.ofString "compute_powers") sc L' 22 (.ref 21))) (fun _ _ => False) (envOf (Str.ofString "compute_powers") sc L' 22 (.ref 21)) test body [] Q (k + 1) s := by
  revert X; k_fill; intro X
  have he2 : powWhile = some (_, [_, _, _, _, _, _, _], _) := rfl
  rw [he] at he2
  cases he2
  clear he
  rw [known hm1, known hm2, known hm3, known hm4] at F
  with_unfolding_all refine' whl_turn ?hE ?_
  case hE => first | passes_own | with_unfolding_all passes_own
  repeat (first | (dsimp only; walk1) | walk1)
  (rename News _ _ _ _ => kN); (rename Fr _ _ _ _ => kF)
  (rename Obj.SetObjOf _ _ (fun k' => false || decide (k' = Int.fdiv _ _)) _ => z1); (rename Obj.SetObjOf _ _ _ (ite _ nS _) => z3)
  (rename (Int.fdiv _ _ = _) => hlo)
  rw [hlo] at z1
  rw [if_neg (show ¬ SS v = true from hS ▸ Bool.false_ne_true)] at z3
  refine' kk _ _ _ _ _ _ _ z1 (by assumption) z3 ?y4 kF kN
  case y4 =>
    intro z h1 h2
    dsimp only [up]
    rw [if_neg h1, if_neg h2]
    split
    · next e => rw [e, hm1]
    · split
      · next e => rw [e, hm2]
      · split
        · next e => rw [e, hm3]
        · split
          · next e => rw [e, hm4]
          · rfl
set_option maxHeartbeats 4000000 in
theorem pow_last (he : powWhile = some (test, body, sc)) (B : Below (ktrTop dp un gd cn cs L a ccd cl outer) base (envX cn cs L a ccd cl :: outer) g) (X : (hd.heap_1 w.params).In g) (T' : Top p loose mean mg mb g) (hd1 : dp + 2 < recursionLimit) (hu : un + 30 < cLine)
    (hS : SS v = false) (hv : v ≤ 1)
    (hso : o.SetObjOf (intKind Challenge.rw_sn0075_01.row.prog w) (fun k' => false || decide (k' = v)) (0 + 1)) (hss : oS.SetObjOf (intKind Challenge.rw_sn0075_01.row.prog w) SS nS) (hnS : nS < 100)
    (hm1 : m (Str.ofString "ws") = some (.ref W1)) (hm3 : m (Str.ofString "seen") = some (.ref S1)) (hm4 : m (Str.ofString "more_than") = some (.int 1 tm))
    (hne : @Ne Nat W1 D1 ∧ @Ne Nat W1 S1 ∧ @Ne Nat D1 S1)
    (F : Fr g L' s.heap m) (N : News g L' s.heap [(W1, o), (D1, oD), (S1, oS)])
    (kk : ∀ (h' : Heap) (dn : Drawn) (tk : Nat) (m' : Str → Option Value), (∀ z, z ≠ Str.ofString "w" → m' z = m z) → Fr g L' h' m' → News g L' h' [(D1, oD)] → Q .next { s with heap := h', drawn := dn, toks := tk }) :
    WhlRest Challenge.rw_sn0075_01.row.prog w ((ktrTop dp un gd cn cs L a ccd cl outer).deeper (envOf (Str.ofString "compute_powers") sc L' 22 (.ref 21))) (fun _ _ => False) (envOf (Str.ofString "compute_powers") sc L' 22 (.ref 21)) test body [] Q (k + 1 + 1) s := by
  revert X; k_fill; intro X
  have he2 : powWhile = some (_, [_, _, _, _, _, _, _], _) := rfl
  rw [he] at he2
  cases he2
  clear he
  rw [known hm1, known hm3, known hm4] at F
  repeat (first | (dsimp only; walk1) | walk1)
  unfold Stay
  repeat (first | (dsimp only; walk1) | walk1)
  (rename News _ _ _ _ => kN); (rename Fr _ _ _ _ => kF)
  refine' kk _ _ _ _ ?y4 kF (fun q hq => kN q (.tail _ (List.mem_append_left [_] hq)))
  case y4 =>
    intro z h1
    dsimp only [up]
    rw [if_neg h1]
    split
    · next e => rw [e, hm1]
    · split
      · next e => rw [e, hm3]
      · split
        · next e => rw [e, hm4]
        · rfl
end
section
variable {w : World} {A₀ : Around} {s : Shared} {base h₀ g : Heap} {outer : List Env} {L L' W1 D1 S1 : Addr} {m0 m mg mb : Str → Option Value} {p : Program} {loose : List Str} {mean : ExcName → Option Value}
  {dp un : Nat} {gd : Option (List Code)} {cn : Str} {cs : Scope} {a : Addr} {ccd : Value} {cl : List (Str × Addr)} {test : PySem.Expr} {body : List Stmt} {sc : Scope} {Q : Flow → Shared → Prop} {o oS oD : Obj} {tm tb : Tok}
theorem pow_w8 (he : powWhile = some (test, body, sc)) (B : Below (ktrTop dp un gd cn cs L a ccd cl outer) base (envX cn cs L a ccd cl :: outer) g) (X : (hd.heap_1 w.params).In g) (T' : Top p loose mean mg mb g) (hd1 : dp + 2 < recursionLimit) (hu : un + 30 < cLine)
    (hso : o.SetObjOf (intKind Challenge.rw_sn0075_01.row.prog w) (fun k' => false || decide (k' = 8)) (0 + 1))
    (hm1 : m (Str.ofString "ws") = some (.ref W1)) (hm2 : m (Str.ofString "need") = some (.ref D1)) (hm3 : m (Str.ofString "seen") = some (.ref S1)) (hm4 : m (Str.ofString "more_than") = some (.int 1 tm))
    (hne : @Ne Nat W1 D1 ∧ @Ne Nat W1 S1 ∧ @Ne Nat D1 S1) (F : Fr g L' s.heap m) (N : News g L' s.heap [(W1, o), (D1, emptyS w), (S1, emptyS w)])
    (hm5 : m (Str.ofString "base") = some (.int 2 tb)) (hm6 : m (Str.ofString "show") = some (.bool false))
    (kk : ∀ (SD : Int → Bool) (t1 t2 t3 : Tok) (h' : Heap) (dn : Drawn) (tk : Nat) (m' : Str → Option Value), m' (Str.ofString "need") = some (.ref D1) → m' (Str.ofString "base") = some (.int 2 tb) → m' (Str.ofString "show") = some (.bool false) → (setO #[(1, Value.int 1 t3), (2, Value.int 2 t2), (4, Value.int 4 t1)] (0 + 1 + 1 + 1) (tabP (!byT w) #[1, 2, 4])).SetObjOf (intKind Challenge.rw_sn0075_01.row.prog w) SD (0 + 1 + 1 + 1) → Fr g L' h' m' → News g L' h' [(D1, setO #[(1, Value.int 1 t3), (2, Value.int 2 t2), (4, Value.int 4 t1)] (0 + 1 + 1 + 1) (tabP (!byT w) #[1, 2, 4]))] → Q .next { s with heap := h', drawn := dn, toks := tk }) :
    WhlRest Challenge.rw_sn0075_01.row.prog w ((ktrTop dp un gd cn cs L a ccd cl outer).deeper (envOf (Str.ofString "compute_powers") sc L' 22 (.ref 21))) (fun _ _ => False) (envOf (Str.ofString "compute_powers") sc L' 22 (.ref 21)) test body [] Q (0 + 1 + 1 + 1 + 1 + 1) s := by
  refine pow_turn (v := 8) (lo := 4) he B X T' hd1 hu (by decide) (by decide) (by decide) (by decide) hso (setObjOf_fresh _) (setObjOf_fresh _) (fun _ => lay_4) (by decide) (by decide) rfl rfl rfl rfl hm1 hm2 hm3 hm4 hne F N (fun o1 s1 t1 h1 d1 k1 m1 so1 sd1 ss1 e1 F1 N1 => ?_)
  refine pow_turn (v := 4) (lo := 2) he B X T' hd1 hu (by decide) (by decide) (by decide) (by decide) so1 sd1 ss1 (fun _ => lay_42) (by decide) (by decide) rfl rfl rfl rfl ((e1 _ (by decide) (by decide)).trans hm1) ((e1 _ (by decide) (by decide)).trans hm2) ((e1 _ (by decide) (by decide)).trans hm3) ((e1 _ (by decide) (by decide)).trans hm4) hne F1 N1 (fun o2 s2 t2 h2 d2 k2 m2 so2 sd2 ss2 e2 F2 N2 => ?_)
  refine pow_turn (v := 2) (lo := 1) he B X T' hd1 hu (by decide) (by decide) (by decide) (by decide) so2 sd2 ss2 (fun _ => lay_421) (by decide) (by decide) rfl rfl rfl rfl ((e2 _ (by decide) (by decide)).trans ((e1 _ (by decide) (by decide)).trans hm1)) ((e2 _ (by decide) (by decide)).trans ((e1 _ (by decide) (by decide)).trans hm2)) ((e2 _ (by decide) (by decide)).trans ((e1 _ (by decide) (by decide)).trans hm3)) ((e2 _ (by decide) (by decide)).trans ((e1 _ (by decide) (by decide)).trans hm4)) hne F2 N2 (fun o3 s3 t3 h3 d3 k3 m3 so3 sd3 ss3 e3 F3 N3 => ?_)
  refine pow_last (v := 1) (D1 := D1) he B X T' hd1 hu (by decide) (by decide) so3 ss3 (by decide) ((e3 _ (by decide) (by decide)).trans ((e2 _ (by decide) (by decide)).trans ((e1 _ (by decide) (by decide)).trans hm1))) ((e3 _ (by decide) (by decide)).trans ((e2 _ (by decide) (by decide)).trans ((e1 _ (by decide) (by decide)).trans hm3))) ((e3 _ (by decide) (by decide)).trans ((e2 _ (by decide) (by decide)).trans ((e1 _ (by decide) (by decide)).trans hm4))) hne F3 N3 (fun h' dn tk m' e F' N' => ?_)
  have em : ∀ z, z ≠ Str.ofString "w" → z ≠ Str.ofString "lo" → m' z = m z := fun z h1 h2 => (((e z h1).trans (e3 z h1 h2)).trans (e2 z h1 h2)).trans (e1 z h1 h2)
  exact kk _ t1 t2 t3 _ _ _ _ ((em _ (by decide) (by decide)).trans hm2) ((em _ (by decide) (by decide)).trans hm5) ((em _ (by decide) (by decide)).trans hm6) sd3 F' N'
theorem pow_w16 (he : powWhile = some (test, body, sc)) (B : Below (ktrTop dp un gd cn cs L a ccd cl outer) base (envX cn cs L a ccd cl :: outer) g) (X : (hd.heap_1 w.params).In g) (T' : Top p loose mean mg mb g) (hd1 : dp + 2 < recursionLimit) (hu : un + 30 < cLine)
    (hso : o.SetObjOf (intKind Challenge.rw_sn0075_01.row.prog w) (fun k' => false || decide (k' = 16)) (0 + 1))
    (hm1 : m (Str.ofString "ws") = some (.ref W1)) (hm2 : m (Str.ofString "need") = some (.ref D1)) (hm3 : m (Str.ofString "seen") = some (.ref S1)) (hm4 : m (Str.ofString "more_than") = some (.int 1 tm))
    (hne : @Ne Nat W1 D1 ∧ @Ne Nat W1 S1 ∧ @Ne Nat D1 S1) (F : Fr g L' s.heap m) (N : News g L' s.heap [(W1, o), (D1, emptyS w), (S1, emptyS w)])
    (hm5 : m (Str.ofString "base") = some (.int 2 tb)) (hm6 : m (Str.ofString "show") = some (.bool false))
    (kk : ∀ (SD : Int → Bool) (t1 t2 t3 t4 : Tok) (h' : Heap) (dn : Drawn) (tk : Nat) (m' : Str → Option Value), m' (Str.ofString "need") = some (.ref D1) → m' (Str.ofString "base") = some (.int 2 tb) → m' (Str.ofString "show") = some (.bool false) → (setO #[(8, Value.int 8 t1), (1, Value.int 1 t4), (2, Value.int 2 t3), (4, Value.int 4 t2)] (0 + 1 + 1 + 1 + 1) (tabP (!byT w) #[0, 1, 2, 4])).SetObjOf (intKind Challenge.rw_sn0075_01.row.prog w) SD (0 + 1 + 1 + 1 + 1) → Fr g L' h' m' → News g L' h' [(D1, setO #[(8, Value.int 8 t1), (1, Value.int 1 t4), (2, Value.int 2 t3), (4, Value.int 4 t2)] (0 + 1 + 1 + 1 + 1) (tabP (!byT w) #[0, 1, 2, 4]))] → Q .next { s with heap := h', drawn := dn, toks := tk }) :
    WhlRest Challenge.rw_sn0075_01.row.prog w ((ktrTop dp un gd cn cs L a ccd cl outer).deeper (envOf (Str.ofString "compute_powers") sc L' 22 (.ref 21))) (fun _ _ => False) (envOf (Str.ofString "compute_powers") sc L' 22 (.ref 21)) test body [] Q (0 + 1 + 1 + 1 + 1 + 1 + 1) s := by
  refine pow_turn (v := 16) (lo := 8) he B X T' hd1 hu (by decide) (by decide) (by decide) (by decide) hso (setObjOf_fresh _) (setObjOf_fresh _) (fun _ => lay_8) (by decide) (by decide) rfl rfl rfl rfl hm1 hm2 hm3 hm4 hne F N (fun o1 s1 t1 h1 d1 k1 m1 so1 sd1 ss1 e1 F1 N1 => ?_)
  refine pow_turn (v := 8) (lo := 4) he B X T' hd1 hu (by decide) (by decide) (by decide) (by decide) so1 sd1 ss1 (fun _ => lay_84) (by decide) (by decide) rfl rfl rfl rfl ((e1 _ (by decide) (by decide)).trans hm1) ((e1 _ (by decide) (by decide)).trans hm2) ((e1 _ (by decide) (by decide)).trans hm3) ((e1 _ (by decide) (by decide)).trans hm4) hne F1 N1 (fun o2 s2 t2 h2 d2 k2 m2 so2 sd2 ss2 e2 F2 N2 => ?_)
  refine pow_turn (v := 4) (lo := 2) he B X T' hd1 hu (by decide) (by decide) (by decide) (by decide) so2 sd2 ss2 (fun _ => lay_842) (by decide) (by decide) rfl rfl rfl rfl ((e2 _ (by decide) (by decide)).trans ((e1 _ (by decide) (by decide)).trans hm1)) ((e2 _ (by decide) (by decide)).trans ((e1 _ (by decide) (by decide)).trans hm2)) ((e2 _ (by decide) (by decide)).trans ((e1 _ (by decide) (by decide)).trans hm3)) ((e2 _ (by decide) (by decide)).trans ((e1 _ (by decide) (by decide)).trans hm4)) hne F2 N2 (fun o3 s3 t3 h3 d3 k3 m3 so3 sd3 ss3 e3 F3 N3 => ?_)
  refine pow_turn (v := 2) (lo := 1) he B X T' hd1 hu (by decide) (by decide) (by decide) (by decide) so3 sd3 ss3 (fun _ => lay_8421) (by decide) (by decide) rfl rfl rfl rfl ((e3 _ (by decide) (by decide)).trans ((e2 _ (by decide) (by decide)).trans ((e1 _ (by decide) (by decide)).trans hm1))) ((e3 _ (by decide) (by decide)).trans ((e2 _ (by decide) (by decide)).trans ((e1 _ (by decide) (by decide)).trans hm2))) ((e3 _ (by decide) (by decide)).trans ((e2 _ (by decide) (by decide)).trans ((e1 _ (by decide) (by decide)).trans hm3))) ((e3 _ (by decide) (by decide)).trans ((e2 _ (by decide) (by decide)).trans ((e1 _ (by decide) (by decide)).trans hm4))) hne F3 N3 (fun o4 s4 t4 h4 d4 k4 m4 so4 sd4 ss4 e4 F4 N4 => ?_)
  refine pow_last (v := 1) (D1 := D1) he B X T' hd1 hu (by decide) (by decide) so4 ss4 (by decide) ((e4 _ (by decide) (by decide)).trans ((e3 _ (by decide) (by decide)).trans ((e2 _ (by decide) (by decide)).trans ((e1 _ (by decide) (by decide)).trans hm1)))) ((e4 _ (by decide) (by decide)).trans ((e3 _ (by decide) (by decide)).trans ((e2 _ (by decide) (by decide)).trans ((e1 _ (by decide) (by decide)).trans hm3)))) ((e4 _ (by decide) (by decide)).trans ((e3 _ (by decide) (by decide)).trans ((e2 _ (by decide) (by decide)).trans ((e1 _ (by decide) (by decide)).trans hm4)))) hne F4 N4 (fun h' dn tk m' e F' N' => ?_)
  have em : ∀ z, z ≠ Str.ofString "w" → z ≠ Str.ofString "lo" → m' z = m z := fun z h1 h2 => ((((e z h1).trans (e4 z h1 h2)).trans (e3 z h1 h2)).trans (e2 z h1 h2)).trans (e1 z h1 h2)
  exact kk _ t1 t2 t3 t4 _ _ _ _ ((em _ (by decide) (by decide)).trans hm2) ((em _ (by decide) (by decide)).trans hm5) ((em _ (by decide) (by decide)).trans hm6) sd4 F' N'
end
end PartSl
section PartSn
theorem base_Sn : True := by
  w_top off
  k_with_none
  k_with "mine:step" => ((first | (k_unfold; (try dsimp only)) | (k_end; wrow_close) | walk1 | (dsimp only; walk1) | (leave1; walk_say "STEP leave1"; try dsimp only) | fail "no step"))
  k_with "storeName" => ((k_here; k_dflt (first | (refine' storeI ?FW7 ?NW7 ?_ ?aW7 ?bW7; (case FW7 => k_asm); (case NW7 => k_asm); (case aW7 => rfl); (case bW7 => rfl); k_whole; intro hq9 tq9 tkq9 Fq9 Nq9; (try k_sweep)) | (refine' storeU ?FW7 ?NW7 ?_ ?aW7 ?bW7; (case FW7 => k_asm); (case NW7 => k_asm); (case aW7 => rfl); (case bW7 => rfl); k_whole; intro hq9 tkq9 Fq9 Nq9; (try k_sweep)))))
  k_with "mine:pj" => (((rename (_ ∧ _) => z); first | exact z.1 | exact Zs z.1 | exact Zl z.1 | exact Zg z.1 | exact z.2 | exact Zs z.2 | exact Zl z.2 | exact Zg z.2 | exact z.2.1 | exact Zs z.2.1 | exact Zl z.2.1 | exact Zg z.2.1 | exact z.2.2 | exact Zs z.2.2 | exact Zl z.2.2 | exact Zg z.2.2 | exact z.2.2.1 | exact Zs z.2.2.1 | exact Zl z.2.2.1 | exact Zg z.2.2.1 | exact z.2.2.2 | exact Zs z.2.2.2 | exact Zl z.2.2.2 | exact Zg z.2.2.2 | exact z.2.2.2.1 | exact Zs z.2.2.2.1 | exact Zl z.2.2.2.1 | exact Zg z.2.2.2.1 | exact z.2.2.2.2 | exact Zs z.2.2.2.2 | exact Zl z.2.2.2.2 | exact Zg z.2.2.2.2 | exact z.2.2.2.2.1 | exact Zs z.2.2.2.2.1 | exact Zl z.2.2.2.2.1 | exact Zg z.2.2.2.2.1 | exact z.2.2.2.2.2 | exact Zs z.2.2.2.2.2 | exact Zl z.2.2.2.2.2 | exact Zg z.2.2.2.2.2 | exact z.2.2.2.2.2.1 | exact Zs z.2.2.2.2.2.1 | exact Zl z.2.2.2.2.2.1 | exact Zg z.2.2.2.2.2.1 | exact z.2.2.2.2.2.2 | exact Zs z.2.2.2.2.2.2 | exact Zl z.2.2.2.2.2.2 | exact Zg z.2.2.2.2.2.2 | exact z.2.2.2.2.2.2.1 | exact Zs z.2.2.2.2.2.2.1 | exact Zl z.2.2.2.2.2.2.1 | exact Zg z.2.2.2.2.2.2.1 | exact z.2.2.2.2.2.2.2 | exact Zs z.2.2.2.2.2.2.2 | exact Zl z.2.2.2.2.2.2.2 | exact Zg z.2.2.2.2.2.2.2 | exact z.2.2.2.2.2.2.2.1 | exact Zs z.2.2.2.2.2.2.2.1 | exact Zl z.2.2.2.2.2.2.2.1 | exact Zg z.2.2.2.2.2.2.2.1 | exact z.2.2.2.2.2.2.2.2 | exact Zs z.2.2.2.2.2.2.2.2 | exact Zl z.2.2.2.2.2.2.2.2 | exact Zg z.2.2.2.2.2.2.2.2 | exact z.2.2.2.2.2.2.2.2.1 | exact Zs z.2.2.2.2.2.2.2.2.1 | exact Zl z.2.2.2.2.2.2.2.2.1 | exact Zg z.2.2.2.2.2.2.2.2.1 | exact z.2.2.2.2.2.2.2.2.2.1 | exact Zs z.2.2.2.2.2.2.2.2.2.1 | exact Zl z.2.2.2.2.2.2.2.2.2.1 | exact Zg z.2.2.2.2.2.2.2.2.2.1 | exact z.2.2.2.2.2.2.2.2.2.2.1 | exact Zs z.2.2.2.2.2.2.2.2.2.2.1 | exact Zl z.2.2.2.2.2.2.2.2.2.2.1 | exact Zg z.2.2.2.2.2.2.2.2.2.2.1 | exact z.2.2.2.2.2.2.2.2.2.2.2.1 | exact Zs z.2.2.2.2.2.2.2.2.2.2.2.1 | exact Zl z.2.2.2.2.2.2.2.2.2.2.2.1 | exact Zg z.2.2.2.2.2.2.2.2.2.2.2.1 | exact z.2.2.2.2.2.2.2.2.2.2.2.2.1 | exact Zs z.2.2.2.2.2.2.2.2.2.2.2.2.1 | exact Zl z.2.2.2.2.2.2.2.2.2.2.2.2.1 | exact Zg z.2.2.2.2.2.2.2.2.2.2.2.2.1 | exact z.2.2.2.2.2.2.2.2.2.2.2.2.2.1 | exact Zs z.2.2.2.2.2.2.2.2.2.2.2.2.2.1 | exact Zl z.2.2.2.2.2.2.2.2.2.2.2.2.2.1 | exact Zg z.2.2.2.2.2.2.2.2.2.2.2.2.2.1 | (clear z; (k_extra "mine:pj"))))
  k_with "mine:ne" => (first | (with_reducible assumption) | exact Ne.symm (by with_reducible assumption) | exact ne_lt (by with_reducible assumption) | exact ne_gt (by with_reducible assumption) | exact ne_lt (lt_led (by with_reducible assumption) (by k_mem)) | exact ne_gt (lt_led (by with_reducible assumption) (by k_mem)) | ((try dsimp only); with_reducible (k_extra "mine:pj")) | assumption | exact Nat.ne_of_lt (Nat.lt_succ_self _) | exact Nat.ne_of_gt (Nat.lt_succ_self _) | (walk_say "K_NE OMEGA"; refine neN ?_; (try dsimp only); omega))
  k_with "mine:nes" => (first | (refine And.intro ?_ ?_ <;> (k_extra "mine:nes")) | k_ne)
  k_with "mine:in" => (first | (with_reducible exact List.mem_cons_self) | (with_reducible assumption) | ((with_reducible refine List.mem_cons_of_mem _ ?_); (k_extra "mine:in")) | exact List.mem_cons_self | (refine List.mem_cons_of_mem _ ?_; (k_extra "mine:in")) | (refine List.mem_append_left _ ?_; (k_extra "mine:in")) | (refine List.mem_append_right _ ?_; (k_extra "mine:in")))
  k_with "mine:sub" => (first | (with_reducible exact sub_id) | (with_reducible exact sub_nil) | ((with_reducible refine sub_cons ?haW7 ?hbW7); (case haW7 => (k_extra "mine:in")); (case hbW7 => (k_extra "mine:sub"))) | ((with_reducible refine sub_both ?haW7 ?hbW7); (case haW7 => (k_extra "mine:sub")); (case hbW7 => (k_extra "mine:sub"))) | ((with_reducible refine sub_skip ?_); (k_extra "mine:sub")) | ((with_reducible refine sub_right ?_); (k_extra "mine:sub")) | ((with_reducible refine sub_left ?_); (k_extra "mine:sub")) | (simp only [List.nil_append, List.cons_append]; (k_extra "mine:sub")))
  k_with "mine:keys" => (first | (k_dflt (exact keys_of rfl rfl)) | (walk_say "K_KEYS LONG"; repeat (first | exact True.intro | refine And.intro ⟨_, _, rfl, rfl⟩ ?_)))
  k_with "mine:enter0" => ((refine' enter0 ?k1W7 ?k2W7 ?k3W7 ?k4W7 ?kKW7 ?k8W7 ?k6W7 ?k7W7 ?k9W7 ?kBW7 ?_ ?c2W7 ?c3W7 ?c4W7 ?c5W7; (case kKW7 => assumption); (case k1W7 => k_asm); (case k2W7 => k_asm); (case k3W7 => k_asm); (case k4W7 => k_asm); (case k6W7 => k_is); (case k7W7 => k_is); (case k8W7 => ktr_room); (case k9W7 => exact BindsTo.of_eq rfl); (case c5W7 => decide); (case kBW7 => exact locs rfl); (case c2W7 => exact rfl); (case c3W7 => exact rfl); (case c4W7 => exact rfl); k_whole; intro Lq9 hq9 tkq9 Fq9 Nq9 Bq9 Xq9 Tq9; (try dsimp only); (try k_fold)))
  k_with "mine:ret" => (((all_goals (try dsimp only)); (all_goals (try k_unfold)); (all_goals (try dsimp only))))
  k_with "mine:same" => (first | exact fun _ _ => rfl | exact fun _ _ _ => rfl | exact same_fg | exact same_fgN | (refine same_upY ?_; (k_extra "mine:same")) | (refine same_up (by rfl) ?_; (k_extra "mine:same")) | (refine same_upN (by rfl) ?_; (k_extra "mine:same")) | (intros; (try dsimp only [forget, up]); (repeat' split); all_goals first | rfl | (exfalso; subst_vars; (rename (List.contains _ _ = false) => hz9); (revert hz9); decide) | (exfalso; (rename (List.contains _ _ = false) => hz9); (rename (List.contains _ _ = true) => hz8); rw [hz9] at hz8; exact Bool.noConfusion hz8) | (exfalso; subst_vars; contradiction)))
  trivial
open PySem PySem.W PySem.Calls PySem.Spec PyProof.Rows
noncomputable def forOf : List Stmt → Option (PySem.Expr × List Stmt)
  | [] => none
  | .For t _ b _ _ :: _ => some (t, b)
  | _ :: r => forOf r
/-- the loop over the needed powers: its target and its body -/
noncomputable def powFor : Option (PySem.Expr × List Stmt × Scope) := match findDef "compute_powers" Challenge.pw_sn0075_01.main.body with
  | some (_, b, sc) => (match forOf b with
    | some (t, w) => some (t, w, sc)
    | none => none)
  | none => none
theorem words_Sn_1 : True := by
  k_with "execs cons" => ((k_here; (with_reducible refine execs_let ?_); intro qk))
  trivial
section
variable {w : World} {A₀ : Around} {s : Shared} {base h₀ g : Heap} {outer : List Env} {L L' D I DD : Addr} {m0 m mg mb : Str → Option Value} {p : Program} {loose : List Str} {mean : ExcName → Option Value}
  {dp un : Nat} {gd : Option (List Code)} {cn : Str} {cs : Scope} {a : Addr} {ccd : Value} {cl : List (Str × Addr)} {target : PySem.Expr} {body : List Stmt} {sc : Scope} {Q : Flow → Shared → Prop} {lo od : Obj} {r : List Itm} {t t1 t2 t3 tb : Tok}
set_option maxHeartbeats 4000000 in
theorem pow_item2 (he : powFor = some (target, body, sc)) (B : Below (ktrTop dp un gd cn cs L a ccd cl outer) base (envX cn cs L a ccd cl :: outer) g) (X : (hd.heap_1 w.params).In g) (T' : Top p loose mean mg mb g) (hd1 : dp + 2 < recursionLimit) (hu : un + 30 < cLine)
    (hod : od.IsDictOf (intKind Challenge.rw_sn0075_01.row.prog w) [(1, .int 2 t1)]) (hof : PyProof.V.FlatPairs PyData.int [(1, .int 2 t1)] [(PyData.int 1, PyData.int 2)])
    (hm1 : m (Str.ofString "d") = some (.ref DD)) (hm2 : m (Str.ofString "base") = some (.int 2 tb)) (hm3 : m (Str.ofString "show") = some (.bool false))
    (hsm : (DD == sysModules) = false) (hne : @Ne Nat D DD ∧ @Ne Nat D I ∧ @Ne Nat DD I)
    (kk : ∀ (od' : Obj) (t' : Tok) (m' : Str → Option Value), od'.IsDictOf (intKind Challenge.rw_sn0075_01.row.prog w) [(1, .int 2 t1), (2, .int 4 t')] → PyProof.V.FlatPairs PyData.int [(1, .int 2 t1), (2, .int 4 t')] [(PyData.int 1, PyData.int 2), (PyData.int 2, PyData.int 4)] → m' (Str.ofString "d") = some (.ref DD) → m' (Str.ofString "base") = some (.int 2 tb) → m' (Str.ofString "show") = some (.bool false) →
      ItemsRest Challenge.rw_sn0075_01.row.prog w ((ktrTop dp un gd cn cs L a ccd cl outer).deeper (envOf (Str.ofString "compute_powers") sc L' 22 (.ref 21))) (fun _ _ => False) g (envOf (Str.ofString "compute_powers") sc L' 22 (.ref 21)) target body Q s [(I, "list_iterator")] [(D, lo)] r m' [(D, lo), (DD, od')]) :
    ItemsRest Challenge.rw_sn0075_01.row.prog w ((ktrTop dp un gd cn cs L a ccd cl outer).deeper (envOf (Str.ofString "compute_powers") sc L' 22 (.ref 21))) (fun _ _ => False) g (envOf (Str.ofString "compute_powers") sc L' 22 (.ref 21)) target body Q s [(I, "list_iterator")] [(D, lo)] (.val (.int 2 t) :: r) m [(D, lo), (DD, od)] := by
  revert X; k_fill; intro X
  have he2 : powFor = some (_, [_], _) := rfl
  rw [he] at he2
  cases he2
  clear he
  rw [known hm1, known hm2, known hm3]
  repeat (first | (dsimp only; walk1) | walk1)
  (rename Obj.IsDictOf _ _ (stored _ _ _) => kD); (rename PyProof.V.FlatPairs _ (stored _ _ _) _ => kf)
  exact kk _ _ _ kD kf rfl rfl rfl
set_option maxHeartbeats 4000000 in
theorem pow_item4 (he : powFor = some (target, body, sc)) (B : Below (ktrTop dp un gd cn cs L a ccd cl outer) base (envX cn cs L a ccd cl :: outer) g) (X : (hd.heap_1 w.params).In g) (T' : Top p loose mean mg mb g) (hd1 : dp + 2 < recursionLimit) (hu : un + 30 < cLine)
    (hod : od.IsDictOf (intKind Challenge.rw_sn0075_01.row.prog w) [(1, .int 2 t1), (2, .int 4 t2)]) (hof : PyProof.V.FlatPairs PyData.int [(1, .int 2 t1), (2, .int 4 t2)] [(PyData.int 1, PyData.int 2), (PyData.int 2, PyData.int 4)])
    (hm1 : m (Str.ofString "d") = some (.ref DD)) (hm2 : m (Str.ofString "base") = some (.int 2 tb)) (hm3 : m (Str.ofString "show") = some (.bool false))
    (hsm : (DD == sysModules) = false) (hne : @Ne Nat D DD ∧ @Ne Nat D I ∧ @Ne Nat DD I)
    (kk : ∀ (od' : Obj) (t' : Tok) (m' : Str → Option Value), od'.IsDictOf (intKind Challenge.rw_sn0075_01.row.prog w) [(1, .int 2 t1), (2, .int 4 t2), (4, .int 16 t')] → PyProof.V.FlatPairs PyData.int [(1, .int 2 t1), (2, .int 4 t2), (4, .int 16 t')] [(PyData.int 1, PyData.int 2), (PyData.int 2, PyData.int 4), (PyData.int 4, PyData.int 16)] → m' (Str.ofString "d") = some (.ref DD) → m' (Str.ofString "base") = some (.int 2 tb) → m' (Str.ofString "show") = some (.bool false) →
      ItemsRest Challenge.rw_sn0075_01.row.prog w ((ktrTop dp un gd cn cs L a ccd cl outer).deeper (envOf (Str.ofString "compute_powers") sc L' 22 (.ref 21))) (fun _ _ => False) g (envOf (Str.ofString "compute_powers") sc L' 22 (.ref 21)) target body Q s [(I, "list_iterator")] [(D, lo)] r m' [(D, lo), (DD, od')]) :
    ItemsRest Challenge.rw_sn0075_01.row.prog w ((ktrTop dp un gd cn cs L a ccd cl outer).deeper (envOf (Str.ofString "compute_powers") sc L' 22 (.ref 21))) (fun _ _ => False) g (envOf (Str.ofString "compute_powers") sc L' 22 (.ref 21)) target body Q s [(I, "list_iterator")] [(D, lo)] (.val (.int 4 t) :: r) m [(D, lo), (DD, od)] := by
  revert X; k_fill; intro X
  have he2 : powFor = some (_, [_], _) := rfl
  rw [he] at he2
  cases he2
  clear he
  rw [known hm1, known hm2, known hm3]
  repeat (first | (dsimp only; walk1) | walk1)
  (rename Obj.IsDictOf _ _ (stored _ _ _) => kD); (rename PyProof.V.FlatPairs _ (stored _ _ _) _ => kf)
  exact kk _ _ _ kD kf rfl rfl rfl
set_option maxHeartbeats 4000000 in
theorem pow_item8 (he : powFor = some (target, body, sc)) (B : Below (ktrTop dp un gd cn cs L a ccd cl outer) base (envX cn cs L a ccd cl :: outer) g) (X : (hd.heap_1 w.params).In g) (T' : Top p loose mean mg mb g) (hd1 : dp + 2 < recursionLimit) (hu : un + 30 < cLine)
    (hod : od.IsDictOf (intKind Challenge.rw_sn0075_01.row.prog w) [(1, .int 2 t1), (2, .int 4 t2), (4, .int 16 t3)]) (hof : PyProof.V.FlatPairs PyData.int [(1, .int 2 t1), (2, .int 4 t2), (4, .int 16 t3)] [(PyData.int 1, PyData.int 2), (PyData.int 2, PyData.int 4), (PyData.int 4, PyData.int 16)])
    (hm1 : m (Str.ofString "d") = some (.ref DD)) (hm2 : m (Str.ofString "base") = some (.int 2 tb)) (hm3 : m (Str.ofString "show") = some (.bool false))
    (hsm : (DD == sysModules) = false) (hne : @Ne Nat D DD ∧ @Ne Nat D I ∧ @Ne Nat DD I)
    (kk : ∀ (od' : Obj) (t' : Tok) (m' : Str → Option Value), od'.IsDictOf (intKind Challenge.rw_sn0075_01.row.prog w) [(1, .int 2 t1), (2, .int 4 t2), (4, .int 16 t3), (8, .int 256 t')] → PyProof.V.FlatPairs PyData.int [(1, .int 2 t1), (2, .int 4 t2), (4, .int 16 t3), (8, .int 256 t')] [(PyData.int 1, PyData.int 2), (PyData.int 2, PyData.int 4), (PyData.int 4, PyData.int 16), (PyData.int 8, PyData.int 256)] → m' (Str.ofString "d") = some (.ref DD) → m' (Str.ofString "base") = some (.int 2 tb) → m' (Str.ofString "show") = some (.bool false) →
      ItemsRest Challenge.rw_sn0075_01.row.prog w ((ktrTop dp un gd cn cs L a ccd cl outer).deeper (envOf (Str.ofString "compute_powers") sc L' 22 (.ref 21))) (fun _ _ => False) g (envOf (Str.ofString "compute_powers") sc L' 22 (.ref 21)) target body Q s [(I, "list_iterator")] [(D, lo)] r m' [(D, lo), (DD, od')]) :
    ItemsRest Challenge.rw_sn0075_01.row.prog w ((ktrTop dp un gd cn cs L a ccd cl outer).deeper (envOf (Str.ofString "compute_powers") sc L' 22 (.ref 21))) (fun _ _ => False) g (envOf (Str.ofString "compute_powers") sc L' 22 (.ref 21)) target body Q s [(I, "list_iterator")] [(D, lo)] (.val (.int 8 t) :: r) m [(D, lo), (DD, od)] := by
  revert X; k_fill; intro X
  have he2 : powFor = some (_, [_], _) := rfl
  rw [he] at he2
  cases he2
  clear he
  rw [known hm1, known hm2, known hm3]
  repeat (first | (dsimp only; walk1) | walk1)
  (rename Obj.IsDictOf _ _ (stored _ _ _) => kD); (rename PyProof.V.FlatPairs _ (stored _ _ _) _ => kf)
  exact kk _ _ _ kD kf rfl rfl rfl
end
end PartSn
section PartSo
theorem base_So : True := by
  w_top off
  k_with_none
  k_with "mine:step" => ((first | (k_unfold; (try dsimp only)) | (k_end; wrow_close) | walk1 | (dsimp only; walk1) | (leave1; walk_say "STEP leave1"; try dsimp only) | fail "no step"))
  k_with "storeName" => ((k_here; k_dflt (first | (refine' storeI ?FW7 ?NW7 ?_ ?aW7 ?bW7; (case FW7 => k_asm); (case NW7 => k_asm); (case aW7 => rfl); (case bW7 => rfl); k_whole; intro hq9 tq9 tkq9 Fq9 Nq9; (try k_sweep)) | (refine' storeU ?FW7 ?NW7 ?_ ?aW7 ?bW7; (case FW7 => k_asm); (case NW7 => k_asm); (case aW7 => rfl); (case bW7 => rfl); k_whole; intro hq9 tkq9 Fq9 Nq9; (try k_sweep)))))
  k_with "mine:pj" => (((rename (_ ∧ _) => z); first | exact z.1 | exact Zs z.1 | exact Zl z.1 | exact Zg z.1 | exact z.2 | exact Zs z.2 | exact Zl z.2 | exact Zg z.2 | exact z.2.1 | exact Zs z.2.1 | exact Zl z.2.1 | exact Zg z.2.1 | exact z.2.2 | exact Zs z.2.2 | exact Zl z.2.2 | exact Zg z.2.2 | exact z.2.2.1 | exact Zs z.2.2.1 | exact Zl z.2.2.1 | exact Zg z.2.2.1 | exact z.2.2.2 | exact Zs z.2.2.2 | exact Zl z.2.2.2 | exact Zg z.2.2.2 | exact z.2.2.2.1 | exact Zs z.2.2.2.1 | exact Zl z.2.2.2.1 | exact Zg z.2.2.2.1 | exact z.2.2.2.2 | exact Zs z.2.2.2.2 | exact Zl z.2.2.2.2 | exact Zg z.2.2.2.2 | exact z.2.2.2.2.1 | exact Zs z.2.2.2.2.1 | exact Zl z.2.2.2.2.1 | exact Zg z.2.2.2.2.1 | exact z.2.2.2.2.2 | exact Zs z.2.2.2.2.2 | exact Zl z.2.2.2.2.2 | exact Zg z.2.2.2.2.2 | exact z.2.2.2.2.2.1 | exact Zs z.2.2.2.2.2.1 | exact Zl z.2.2.2.2.2.1 | exact Zg z.2.2.2.2.2.1 | exact z.2.2.2.2.2.2 | exact Zs z.2.2.2.2.2.2 | exact Zl z.2.2.2.2.2.2 | exact Zg z.2.2.2.2.2.2 | exact z.2.2.2.2.2.2.1 | exact Zs z.2.2.2.2.2.2.1 | exact Zl z.2.2.2.2.2.2.1 | exact Zg z.2.2.2.2.2.2.1 | exact z.2.2.2.2.2.2.2 | exact Zs z.2.2.2.2.2.2.2 | exact Zl z.2.2.2.2.2.2.2 | exact Zg z.2.2.2.2.2.2.2 | exact z.2.2.2.2.2.2.2.1 | exact Zs z.2.2.2.2.2.2.2.1 | exact Zl z.2.2.2.2.2.2.2.1 | exact Zg z.2.2.2.2.2.2.2.1 | exact z.2.2.2.2.2.2.2.2 | exact Zs z.2.2.2.2.2.2.2.2 | exact Zl z.2.2.2.2.2.2.2.2 | exact Zg z.2.2.2.2.2.2.2.2 | exact z.2.2.2.2.2.2.2.2.1 | exact Zs z.2.2.2.2.2.2.2.2.1 | exact Zl z.2.2.2.2.2.2.2.2.1 | exact Zg z.2.2.2.2.2.2.2.2.1 | exact z.2.2.2.2.2.2.2.2.2.1 | exact Zs z.2.2.2.2.2.2.2.2.2.1 | exact Zl z.2.2.2.2.2.2.2.2.2.1 | exact Zg z.2.2.2.2.2.2.2.2.2.1 | exact z.2.2.2.2.2.2.2.2.2.2.1 | exact Zs z.2.2.2.2.2.2.2.2.2.2.1 | exact Zl z.2.2.2.2.2.2.2.2.2.2.1 | exact Zg z.2.2.2.2.2.2.2.2.2.2.1 | exact z.2.2.2.2.2.2.2.2.2.2.2.1 | exact Zs z.2.2.2.2.2.2.2.2.2.2.2.1 | exact Zl z.2.2.2.2.2.2.2.2.2.2.2.1 | exact Zg z.2.2.2.2.2.2.2.2.2.2.2.1 | exact z.2.2.2.2.2.2.2.2.2.2.2.2.1 | exact Zs z.2.2.2.2.2.2.2.2.2.2.2.2.1 | exact Zl z.2.2.2.2.2.2.2.2.2.2.2.2.1 | exact Zg z.2.2.2.2.2.2.2.2.2.2.2.2.1 | exact z.2.2.2.2.2.2.2.2.2.2.2.2.2.1 | exact Zs z.2.2.2.2.2.2.2.2.2.2.2.2.2.1 | exact Zl z.2.2.2.2.2.2.2.2.2.2.2.2.2.1 | exact Zg z.2.2.2.2.2.2.2.2.2.2.2.2.2.1 | (clear z; (k_extra "mine:pj"))))
  k_with "mine:ne" => (first | (with_reducible assumption) | exact Ne.symm (by with_reducible assumption) | exact ne_lt (by with_reducible assumption) | exact ne_gt (by with_reducible assumption) | exact ne_lt (lt_led (by with_reducible assumption) (by k_mem)) | exact ne_gt (lt_led (by with_reducible assumption) (by k_mem)) | ((try dsimp only); with_reducible (k_extra "mine:pj")) | assumption | exact Nat.ne_of_lt (Nat.lt_succ_self _) | exact Nat.ne_of_gt (Nat.lt_succ_self _) | (walk_say "K_NE OMEGA"; refine neN ?_; (try dsimp only); omega))
  k_with "mine:nes" => (first | (refine And.intro ?_ ?_ <;> (k_extra "mine:nes")) | k_ne)
  k_with "mine:in" => (first | (with_reducible exact List.mem_cons_self) | (with_reducible assumption) | ((with_reducible refine List.mem_cons_of_mem _ ?_); (k_extra "mine:in")) | exact List.mem_cons_self | (refine List.mem_cons_of_mem _ ?_; (k_extra "mine:in")) | (refine List.mem_append_left _ ?_; (k_extra "mine:in")) | (refine List.mem_append_right _ ?_; (k_extra "mine:in")))
  k_with "mine:sub" => (first | (with_reducible exact sub_id) | (with_reducible exact sub_nil) | ((with_reducible refine sub_cons ?haW7 ?hbW7); (case haW7 => (k_extra "mine:in")); (case hbW7 => (k_extra "mine:sub"))) | ((with_reducible refine sub_both ?haW7 ?hbW7); (case haW7 => (k_extra "mine:sub")); (case hbW7 => (k_extra "mine:sub"))) | ((with_reducible refine sub_skip ?_); (k_extra "mine:sub")) | ((with_reducible refine sub_right ?_); (k_extra "mine:sub")) | ((with_reducible refine sub_left ?_); (k_extra "mine:sub")) | (simp only [List.nil_append, List.cons_append]; (k_extra "mine:sub")))
  k_with "mine:keys" => (first | (k_dflt (exact keys_of rfl rfl)) | (walk_say "K_KEYS LONG"; repeat (first | exact True.intro | refine And.intro ⟨_, _, rfl, rfl⟩ ?_)))
  k_with "mine:enter0" => ((refine' enter0 ?k1W7 ?k2W7 ?k3W7 ?k4W7 ?kKW7 ?k8W7 ?k6W7 ?k7W7 ?k9W7 ?kBW7 ?_ ?c2W7 ?c3W7 ?c4W7 ?c5W7; (case kKW7 => assumption); (case k1W7 => k_asm); (case k2W7 => k_asm); (case k3W7 => k_asm); (case k4W7 => k_asm); (case k6W7 => k_is); (case k7W7 => k_is); (case k8W7 => ktr_room); (case k9W7 => exact BindsTo.of_eq rfl); (case c5W7 => decide); (case kBW7 => exact locs rfl); (case c2W7 => exact rfl); (case c3W7 => exact rfl); (case c4W7 => exact rfl); k_whole; intro Lq9 hq9 tkq9 Fq9 Nq9 Bq9 Xq9 Tq9; (try dsimp only); (try k_fold)))
  k_with "mine:ret" => (((all_goals (try dsimp only)); (all_goals (try k_unfold)); (all_goals (try dsimp only))))
  k_with "mine:same" => (first | exact fun _ _ => rfl | exact fun _ _ _ => rfl | exact same_fg | exact same_fgN | (refine same_upY ?_; (k_extra "mine:same")) | (refine same_up (by rfl) ?_; (k_extra "mine:same")) | (refine same_upN (by rfl) ?_; (k_extra "mine:same")) | (intros; (try dsimp only [forget, up]); (repeat' split); all_goals first | rfl | (exfalso; subst_vars; (rename (List.contains _ _ = false) => hz9); (revert hz9); decide) | (exfalso; (rename (List.contains _ _ = false) => hz9); (rename (List.contains _ _ = true) => hz8); rw [hz9] at hz8; exact Bool.noConfusion hz8) | (exfalso; subst_vars; contradiction)))
  trivial
open PySem PySem.W PySem.Calls PySem.Spec PyProof.Rows
theorem words_So_1 : True := by
  k_with "execs cons" => ((k_here; (with_reducible refine execs_let ?_); intro qk))
  trivial
section
theorem whl_stay {prog : Program} {w : World} {A : Around} {E : Value → Shared → Prop} {s : Shared} {env : Env} {test : PySem.Expr} {body orelse : List Stmt} {Q : Flow → Shared → Prop} {pos : Pos} (h : Stay (WhlRest prog w A E env test body orelse Q 5 s)) : wpAny (model prog w) A (exec (.While test body orelse pos) env) Q E s := wpAny_While h
theorem ints3 {vs : List Value} {a b c : Int} (h : IntsAre vs [a, b, c]) {P : List Value → Prop} (k : ∀ t1 t2 t3, P [.int a t1, .int b t2, .int c t3]) : P vs := by
  cases h with
  | @cons _ t1 _ _ h => cases h with
    | @cons _ t2 _ _ h => cases h with
      | @cons _ t3 _ _ h => cases h; exact k _ _ _
theorem ints4 {vs : List Value} {a b c d : Int} (h : IntsAre vs [a, b, c, d]) {P : List Value → Prop} (k : ∀ t1 t2 t3 t4, P [.int a t1, .int b t2, .int c t3, .int d t4]) : P vs := by
  cases h with
  | @cons _ t1 _ _ h => cases h with
    | @cons _ t2 _ _ h => cases h with
      | @cons _ t3 _ _ h => cases h with
        | @cons _ t4 _ _ h => cases h; exact k _ _ _ _
theorem below3 : ∀ i ≤ 3, SetTable.below #[1, 2, 4] (if i = 0 then 0 else (#[1, 2, 4] : Array Nat).getD (i - 1) 0 + 1) = i := by decide
theorem below4 : ∀ i ≤ 4, SetTable.below #[0, 1, 2, 4] (if i = 0 then 0 else (#[0, 1, 2, 4] : Array Nat).getD (i - 1) 0 + 1) = i := by decide
theorem sorted3 {w : World} {A : Around} {prog : Program} {E : Value → Shared → Prop} {s : Shared} {Q : Value → Shared → Prop} {h₀ : Heap} {L r : Addr} {m : Str → Option Value} {news : List (Addr × Obj)} {t1 t2 t4 : Tok} {ep : Nat} (F : Fr h₀ L s.heap m) (N : News h₀ L s.heap news) (hh : A.handled = none)
    (hm : (r, setO #[(1, Value.int 1 t1), (2, Value.int 2 t2), (4, Value.int 4 t4)] ep (tabP (!byT w) #[1, 2, 4])) ∈ news)
    (h : ∀ D c h' tk t1 t2 t3, Fr h₀ L h' m → News h₀ L h' ((D, PySem.W.listOf #[.int 1 t1, .int 2 t2, .int 4 t3] c) :: news) → (∀ q ∈ news, q.1 < D) → Q (.ref D) { s with heap := h', toks := tk }) :
    wpAny (model prog w) A (call (.builtin "sorted") [.ref r]) Q E s := by
  refine sorted_set (ns := [1, 2, 4]) (ms := [1, 2, 4]) F N hh ⟨(N _ hm).1, by rfl, rfl, rfl⟩ below3 (by repeat constructor) (by decide) (List.Perm.refl _) (by decide) fun D vs c h' tk F' N' l1 hi => ?_
  revert N'
  exact ints3 hi (P := fun vs => News h₀ L h' ((D, PySem.W.listOf vs.toArray c) :: news) → Q (.ref D) { s with heap := h', toks := tk }) fun t1 t2 t3 N' => h D c h' tk t1 t2 t3 F' N' l1
theorem sorted4 {w : World} {A : Around} {prog : Program} {E : Value → Shared → Prop} {s : Shared} {Q : Value → Shared → Prop} {h₀ : Heap} {L r : Addr} {m : Str → Option Value} {news : List (Addr × Obj)} {t1 t2 t4 t8 : Tok} {ep : Nat} (F : Fr h₀ L s.heap m) (N : News h₀ L s.heap news) (hh : A.handled = none)
    (hm : (r, setO #[(8, Value.int 8 t8), (1, Value.int 1 t1), (2, Value.int 2 t2), (4, Value.int 4 t4)] ep (tabP (!byT w) #[0, 1, 2, 4])) ∈ news)
    (h : ∀ D c h' tk t1 t2 t3 t4, Fr h₀ L h' m → News h₀ L h' ((D, PySem.W.listOf #[.int 1 t1, .int 2 t2, .int 4 t3, .int 8 t4] c) :: news) → (∀ q ∈ news, q.1 < D) → Q (.ref D) { s with heap := h', toks := tk }) :
    wpAny (model prog w) A (call (.builtin "sorted") [.ref r]) Q E s := by
  refine sorted_set (ns := [8, 1, 2, 4]) (ms := [1, 2, 4, 8]) F N hh ⟨(N _ hm).1, by rfl, rfl, rfl⟩ below4 (by repeat constructor) (by decide) (by decide) (by decide) fun D vs c h' tk F' N' l1 hi => ?_
  revert N'
  exact ints4 hi (P := fun vs => News h₀ L h' ((D, PySem.W.listOf vs.toArray c) :: news) → Q (.ref D) { s with heap := h', toks := tk }) fun t1 t2 t3 t4 N' => h D c h' tk t1 t2 t3 t4 F' N' l1
end
section
variable {w : World} {A₀ : Around} {s : Shared} {base h₀ : Heap} {outer : List Env} {L : Addr} {m mg mb : Str → Option Value} {p : Program} {loose : List Str} {mean : ExcName → Option Value}
  {dp un : Nat} {gd : Option (List Code)} {cn : Str} {cs : Scope} {a : Addr} {ccd : Value} {cl : List (Str × Addr)}
theorem words_So_2 : True := by
  k_with "call type:set nil nil" => ((k_here; k_dflt (refine set_new_N (by k_asm) (by k_asm) ?_); intro dq9 hq9 Fq9 Nq9 l1 hsq9; (try k_lt l1)))
  k_with "truthy ref" => ((k_here; (with_reducible show wpAny _ _ (truthy (Value.ref _)) _ _ _); k_dflt (refine' truthy_set ?NW7 ?UW7 ?dW7 ?zW7 ?_; (case NW7 => k_asm); (case UW7 => k_updF); (case dW7 => k_asm); (case zW7 => decide)); (try dsimp only)))
  k_with "exec While" => ((k_here; kwh_closed; k_dflt (refine whl_stay ?_)))
  k_with "call builtin:sorted" => ((k_here; (show wpAny _ _ (call (Value.builtin "sorted") [Value.ref _]) _ _ _); (first | (refine' sorted3 ?FW7 ?NW7 ?hhW7 ?hmW7 (fun Dq9 cq9 hq9 tkq9 t1q9 t2q9 t3q9 Fq9 Nq9 l1 => ?_); (case FW7 => k_asm); (case NW7 => k_asm); (case hhW7 => first | rfl | k_asm); (case hmW7 => k_mem)) | (refine' sorted4 ?FW7 ?NW7 ?hhW7 ?hmW7 (fun Dq9 cq9 hq9 tkq9 t1q9 t2q9 t3q9 t4q9 Fq9 Nq9 l1 => ?_); (case FW7 => k_asm); (case NW7 => k_asm); (case hhW7 => first | rfl | k_asm); (case hmW7 => k_mem))); (try k_lt l1); (try k_sweep)))
  k_with "call builtin:iter" => ((k_here; (show wpAny _ _ (call (Value.builtin "iter") [Value.ref _]) _ _ _); first | (refine' list_iter_new (vs := [_, _, _]) ?FW7 ?NW7 ?hmW7 ?hcW7 ?hdW7 (fun Iq9 hq9 oIq9 Fq9 Nq9 l1 hiq9 => ?_); (case FW7 => k_asm); (case NW7 => k_asm); (case hmW7 => k_mem); (case hcW7 => rfl); (case hdW7 => rfl); (try k_lt l1)) | (refine' list_iter_new (vs := [_, _, _, _]) ?FW7 ?NW7 ?hmW7 ?hcW7 ?hdW7 (fun Iq9 hq9 oIq9 Fq9 Nq9 l1 hiq9 => ?_); (case FW7 => k_asm); (case NW7 => k_asm); (case hmW7 => k_mem); (case hcW7 => rfl); (case hdW7 => rfl); (try k_lt l1))))
  k_with "call builtin:next" => ((k_here; (show wpAny _ _ (call (Value.builtin "next") [Value.ref _]) _ _ _); (rename LitO _ _ _ => litq9); first | (refine' list_next (vs := [_, _, _]) ?FW7 ?NW7 ?UW7 litq9 ?hmW7 ?hcW7 ?hdW7 ?hxW7 (fun hq9 oq9 Fq9 Nq9 hiq9 => ?_); (case FW7 => k_asm); (case NW7 => k_asm); (case UW7 => k_updF); (case hmW7 => k_mem); (case hcW7 => rfl); (case hdW7 => rfl); (case hxW7 => rfl); (try dsimp only at Nq9)) | (refine' list_next (vs := [_, _, _, _]) ?FW7 ?NW7 ?UW7 litq9 ?hmW7 ?hcW7 ?hdW7 ?hxW7 (fun hq9 oq9 Fq9 Nq9 hiq9 => ?_); (case FW7 => k_asm); (case NW7 => k_asm); (case UW7 => k_updF); (case hmW7 => k_mem); (case hcW7 => rfl); (case hdW7 => rfl); (case hxW7 => rfl); (try dsimp only at Nq9))))
  k_with "exec For Name Name cons nil" => ((k_here; (rename Fr _ _ _ _ => lFq9); (with_unfolding_all refine' For_turns lFq9 ?_); k_whole))
  trivial
set_option maxHeartbeats 4000000 in
theorem spec_pow8 (B : Below A₀ base outer h₀) (F : Fr h₀ L s.heap m) (X : (hd.heap_1 w.params).In h₀) (T : Top p loose mean mg mb h₀) (hk : cs.kind = .function) (hd : dp + 2 < recursionLimit) (hu : un + 30 < cLine)
    {t1 t2 t3 : Tok} :
    codeAny (model Challenge.rw_sn0075_01.row.prog w) (ktrTop dp un gd cn cs L a ccd cl outer) (.call (.ref 22) ⟨[.int 8 t1, .int 2 t2, .int 1 t3], []⟩)
      (RetD s (fun r h' => ∃ D o t1 t2 t3, r = .ref D ∧ s.heap.get? D = none ∧ (D == sysModules) = false ∧ h'.get? D = some o ∧ o.IsDictOf (PySem.intKind Challenge.rw_sn0075_01.row.prog w) [(1, .int 2 t1), (2, .int 4 t2), (4, .int 16 t3)])) s := by
  revert X; k_fill; intro X
  k_dflt (refine' enterD ?k1 ?k2 ?k3 ?k4 ?kK ?k8 ?k6 ?k7 ?k9 ?kB ?_ ?c2 ?c3 ?c4 ?c5; (case kK => assumption); (case k1 => k_asm); (case k2 => k_asm); (case k3 => k_asm); (case k4 => k_asm); (case k6 => k_is); (case k7 => k_is); (case k8 => ktr_room); (case k9 => exact kp_binds (X.keeps F.keep) (fun _ => rfl)); (case c5 => decide); (case kB => exact locs rfl); (case c2 => exact rfl); (case c3 => exact rfl); (case c4 => exact rfl); k_whole; intro L' h' tk' F' N' B' X' T'; (try dsimp only); (try k_fold))
  k_steps
  unfold Stay
  (rename Fr _ _ _ _ => lF'); (rename News _ _ _ _ => lN'); (rename Obj.SetObjOf _ _ (fun k' => false || decide (k' = 8)) _ => lS')
  refine pow_w8 rfl B' X' T' ?r1 ?r2 lS' rfl rfl rfl rfl ?r3 lF' lN' rfl rfl (fun SD' t1' t2' t3' h' dn' tk' m' e1 e2 e3 hsd' F' N' => ?_)
  case r1 => assumption
  case r2 => assumption
  case r3 => (k_extra "mine:nes")
  clear lF' lN' lS'
  rw [known e1, known e2, known e3] at F'
  k_steps
  (rename LitO _ _ _ => lit'); (rename Fr _ _ _ _ => lF'); (rename News _ _ _ _ => lN')
  (rename Obj.IsDictOf _ _ (stored _ _ _) => kD); (rename PyProof.V.FlatPairs _ (stored _ _ _) _ => kf)
  with_unfolding_all refine' iter_itTurns (vs := [_, _]) (news := [_, _]) ?hh lF' (fun q hq => lN' q (List.mem_append_left [_] hq)) lit' ?hm ?hc ?hd ?ho ?_
  (case hh => rfl); (case hm => k_mem); (case hc => rfl); (case hd => rfl)
  case ho => exact List.forall_mem_cons.mpr ⟨by k_ne, List.forall_mem_cons.mpr ⟨by k_ne, fun _ hz => nomatch hz⟩⟩
  clear lF' lN'
  refine pow_item2 rfl B' X' T' ?r1 ?r2 kD kf rfl rfl rfl ?r4 ?r3 (fun o2 u2 m2 kD2 kf2 f1 f2 f3 => ?_)
  case r1 => assumption
  case r2 => assumption
  case r3 => (k_extra "mine:nes")
  case r4 => assumption
  refine pow_item4 rfl B' X' T' ?r1 ?r2 kD2 kf2 f1 f2 f3 ?r4 ?r3 (fun o4 u4 m4 kD4 kf4 g1 g2 g3 => ?_)
  case r1 => assumption
  case r2 => assumption
  case r3 => (k_extra "mine:nes")
  case r4 => assumption
  clear kD2 kf2
  rw [known g1]
  k_steps
  (k_extra "mine:ret")
  (rename Fr _ _ _ _ => kF); (rename News _ _ _ _ => kN)
  have kz := kN _ (List.Mem.tail _ (.head _))
  exact ⟨_, _, _, rfl, kF.keep, _, _, _, _, _, rfl, kz.2.2, by assumption, kz.1, kD4⟩
set_option maxHeartbeats 4000000 in
theorem spec_pow16 (B : Below A₀ base outer h₀) (F : Fr h₀ L s.heap m) (X : (hd.heap_1 w.params).In h₀) (T : Top p loose mean mg mb h₀) (hk : cs.kind = .function) (hd : dp + 2 < recursionLimit) (hu : un + 30 < cLine)
    {t1 t2 t3 : Tok} :
    codeAny (model Challenge.rw_sn0075_01.row.prog w) (ktrTop dp un gd cn cs L a ccd cl outer) (.call (.ref 22) ⟨[.int 16 t1, .int 2 t2, .int 1 t3], []⟩)
      (RetD s (fun r h' => ∃ D o t1 t2 t3 t4, r = .ref D ∧ s.heap.get? D = none ∧ (D == sysModules) = false ∧ h'.get? D = some o ∧ o.IsDictOf (PySem.intKind Challenge.rw_sn0075_01.row.prog w) [(1, .int 2 t1), (2, .int 4 t2), (4, .int 16 t3), (8, .int 256 t4)])) s := by
  revert X; k_fill; intro X
  k_dflt (refine' enterD ?k1 ?k2 ?k3 ?k4 ?kK ?k8 ?k6 ?k7 ?k9 ?kB ?_ ?c2 ?c3 ?c4 ?c5; (case kK => assumption); (case k1 => k_asm); (case k2 => k_asm); (case k3 => k_asm); (case k4 => k_asm); (case k6 => k_is); (case k7 => k_is); (case k8 => ktr_room); (case k9 => exact kp_binds (X.keeps F.keep) (fun _ => rfl)); (case c5 => decide); (case kB => exact locs rfl); (case c2 => exact rfl); (case c3 => exact rfl); (case c4 => exact rfl); k_whole; intro L' h' tk' F' N' B' X' T'; (try dsimp only); (try k_fold))
  k_steps
  unfold Stay
  (rename Fr _ _ _ _ => lF'); (rename News _ _ _ _ => lN'); (rename Obj.SetObjOf _ _ (fun k' => false || decide (k' = 16)) _ => lS')
  refine pow_w16 rfl B' X' T' ?r1 ?r2 lS' rfl rfl rfl rfl ?r3 lF' lN' rfl rfl (fun SD' t1' t2' t3' t4' h' dn' tk' m' e1 e2 e3 hsd' F' N' => ?_)
  case r1 => assumption
  case r2 => assumption
  case r3 => (k_extra "mine:nes")
  clear lF' lN' lS'
  rw [known e1, known e2, known e3] at F'
  k_steps
  (rename LitO _ _ _ => lit'); (rename Fr _ _ _ _ => lF'); (rename News _ _ _ _ => lN')
  (rename Obj.IsDictOf _ _ (stored _ _ _) => kD); (rename PyProof.V.FlatPairs _ (stored _ _ _) _ => kf)
  with_unfolding_all refine' iter_itTurns (vs := [_, _, _]) (news := [_, _]) ?hh lF' (fun q hq => lN' q (List.mem_append_left [_] hq)) lit' ?hm ?hc ?hd ?ho ?_
  (case hh => rfl); (case hm => k_mem); (case hc => rfl); (case hd => rfl)
  case ho => exact List.forall_mem_cons.mpr ⟨by k_ne, List.forall_mem_cons.mpr ⟨by k_ne, fun _ hz => nomatch hz⟩⟩
  clear lF' lN'
  refine pow_item2 rfl B' X' T' ?r1 ?r2 kD kf rfl rfl rfl ?r4 ?r3 (fun o2 u2 m2 kD2 kf2 f1 f2 f3 => ?_)
  case r1 => assumption
  case r2 => assumption
  case r3 => (k_extra "mine:nes")
  case r4 => assumption
  refine pow_item4 rfl B' X' T' ?r1 ?r2 kD2 kf2 f1 f2 f3 ?r4 ?r3 (fun o4 u4 m4 kD4 kf4 g1 g2 g3 => ?_)
  case r1 => assumption
  case r2 => assumption
  case r3 => (k_extra "mine:nes")
  case r4 => assumption
  clear kD2 kf2
  refine pow_item8 rfl B' X' T' ?r1 ?r2 kD4 kf4 g1 g2 g3 ?r4 ?r3 (fun o8 u8 m8 kD8 kf8 g1 g2 g3 => ?_)
  case r1 => assumption
  case r2 => assumption
  case r3 => (k_extra "mine:nes")
  case r4 => assumption
  clear kD4 kf4
  rw [known g1]
  k_steps
  (k_extra "mine:ret")
  (rename Fr _ _ _ _ => kF); (rename News _ _ _ _ => kN)
  have kz := kN _ (List.Mem.tail _ (.head _))
  exact ⟨_, _, _, rfl, kF.keep, _, _, _, _, _, _, rfl, kz.2.2, by assumption, kz.1, kD8⟩
end
end PartSo
section PartL0
open PySem PySem.W PySem.Calls PySem.Spec PyProof.Rows
section
variable {prog : Program} {w : World} {A : Around} {E : Value → Shared → Prop} {s : Shared} {h₀ : Heap} {L : Addr} {m : Str → Option Value} {news : List (Addr × Obj)} {P : Value → Heap → Prop} {Q : Value → Shared → Prop} {f : Value} {args : List Value}
theorem use_specD (F : Fr h₀ L s.heap m) (N : News h₀ L s.heap news) (h : codeAny (model prog w) A (.call f ⟨args, []⟩) (RetD s P) s)
    (k : ∀ v h' dn tk, Fr h₀ L h' m → News h₀ L h' news → Ext s.heap h' → P v h' → Q v { s with heap := h', drawn := dn, toks := tk }) : wpAny (model prog w) A (call f args) Q E s := by
  refine wpAny_call (codeAny_mono h ?_)
  intro r s' hr
  match r, hr with
  | .ok (.ret v), ⟨h', dn, tk, e, x, p⟩ =>
    subst e
    exact k v h' dn tk (Ext.fr x F) (Ext.ledger x N) x p
end
section
variable {w : World} {A₀ : Around} {s : Shared} {base h₀ : Heap} {outer : List Env} {L : Addr} {m mg mb : Str → Option Value} {p : Program} {loose : List Str} {mean : ExcName → Option Value}
  {dp un : Nat} {gd : Option (List Code)} {cn : Str} {cs : Scope} {a : Addr} {ccd : Value} {cl : List (Str × Addr)}
theorem four {ks : List Int} (h : ks.length = 4) : ∃ a b c d, ks = [a, b, c, d] := by
  match ks, h with
  | [a, b, c, d], _ => exact ⟨a, b, c, d, rfl⟩
theorem spec_draw4 (B : Below A₀ base outer h₀) (F : Fr h₀ L s.heap m) (X : (hd.heap_1 w.params).In h₀) (T : Top p loose mean mg mb h₀) (hk : cs.kind = .function) (hd : dp + 1 < recursionLimit) (hu : un + 8 < cLine)
    {l : Addr} {vs : List Value} {ns : List Int} (hl : h₀.IsList l vs.toArray) (hi : IntsAre vs ns) (hfit : ns.length < 100)  :
    codeAny (model Challenge.rw_sn0075_01.row.prog w) (ktrTop dp un gd cn cs L a ccd cl outer) (.call (.ref 122) ⟨[.ref l], []⟩) (RetP s (fun v h' => ∃ D x0 x1 x2 x3 t0 t1 t2 t3 n, v = .ref D ∧ s.heap.get? D = none ∧ h'.get? D = some (W.listOf #[.int x0 t0, .int x1 t1, .int x2 t2, .int x3 t3] n) ∧ 0 ≤ x0 ∧ 0 ≤ x1 ∧ 0 ≤ x2 ∧ 0 ≤ x3)) s := by
  refine codeAny_mono (spec_draw B F X T hk hd hu (hl.at fun o e => F.keep _ o e) hi hfit) ?_
  intro r s' hr
  match r, hr with
  | .ok (.ret v), ⟨h', tk, e, x, ks, ⟨h4, h0⟩, D, vs, n, hv, hD, hg, hI⟩ =>
    obtain ⟨x0, x1, x2, x3, rfl⟩ := four h4
    simp only [List.mem_cons, List.not_mem_nil, or_false, forall_eq_or_imp, forall_eq] at h0
    revert hg
    refine ints4 hI (P := fun vs => h'.get? D = some (W.listOf vs.toArray n) → _) fun t0 t1 t2 t3 hg => ⟨h', tk, e, x, D, x0, x1, x2, x3, t0, t1, t2, t3, n, hv, hD, hg, h0.1, h0.2.1, h0.2.2.1, h0.2.2.2⟩

theorem tab_apart {h : Heap} {c c2 : Addr} {oc oc2 : Obj} {vs vs2 : Array Value} {t t2 : Tok} (h1 : oc.data = .fields vs) (h2 : vs[1]? = some (.str (Str.ofString "_int2digits.<locals>.inner") t)) (h3 : oc2.data = .fields vs2) (h4 : vs2[1]? = some (.str (Str.ofString "_digits2int.<locals>.inner") t2))
    (e1 : h.get? c = some oc) (e2 : h.get? c2 = some oc2) : @Ne Nat c c2 := by
  intro e
  rw [show c = c2 from e, e2] at e1
  cases e1
  rw [h1] at h3
  cases h3
  rw [h2] at h4
  have h5 := congrArg (fun v : Option Value => match v with | some (.str z _) => some z | _ => none) h4
  dsimp only at h5
  exact absurd (Option.some.inj h5) (by decide)
theorem data_apart {h : Heap} {c D : Addr} {oc : Obj} {vs xs : Array Value} (h1 : oc.data = .fields vs) (e1 : h.get? c = some oc) (e2 : h.get? D = some (tupObj xs)) : @Ne Nat D c := by
  intro e
  rw [show D = c from e, e1] at e2
  cases e2
  cases h1
theorem idm_first {E : Value → Shared → Prop} {Q : Value → Shared → Prop} {news rest : List (Addr × Obj)} (B : Below A₀ base outer h₀) (F : Fr h₀ L s.heap m) (X : (hd.heap_1 w.params).In h₀) (T : Top p loose mean mg mb h₀) (hk : cs.kind = .function) (hd : dp + 31 < recursionLimit) (hu : un + 310 < cLine)
    (N : News h₀ L s.heap news) (h38 : (38, tabObj #[]) ∈ news) (h45 : (45, tabObj #[]) ∈ news) (hr : ∀ p ∈ rest, p ∈ news ∧ @Ne Nat p.1 38 ∧ @Ne Nat p.1 45) (hC : CodeHd h₀ 42 38) (hC2 : CodeHd h₀ 49 45)
    {x b q : Nat} {tx tb : Tok} {XI BI : Int} (hXI : XI = (x : Int)) (hBI : BI = (b : Int)) (hx : 0 < x ∧ x < 2 ^ 17) (hb : 0 < b ∧ b < 512)
    {k : Nat} (hk1 : 1 ≤ k ∧ k ≤ 17) (hkk : ((Builtin.Int.intBits (x : Int) : Int) + (Builtin.Int.intBits (b : Int) : Nat) - 1).fdiv (Builtin.Int.intBits (b : Int) : Nat) = (k : Int)) (hq : x / b = q) (h0 : x % b = 0)
    (kk : ∀ D c c2 oc oc2 t1 t2 h' tk, Fr h₀ L h' m → News h₀ L h' ((D, tupObj #[.int (q : Int) t1, .int 0 t2]) :: (38, tabObj #[rawInt 73, rawInt 4, .ref c]) :: (c, oc) :: (45, tabObj #[rawInt 88, rawInt 4, .ref c2]) :: (c2, oc2) :: rest) →
      TabHit 73 "_int2digits.<locals>.inner" #[rawInt 73, rawInt 4, .ref c] [(c, oc)] → TabHit 88 "_digits2int.<locals>.inner" #[rawInt 88, rawInt 4, .ref c2] [(c2, oc2)] →
      (@Ne Nat D 38 ∧ @Ne Nat D 45 ∧ @Ne Nat D c ∧ @Ne Nat D c2 ∧ @Ne Nat c 38 ∧ @Ne Nat c 45 ∧ @Ne Nat c2 38 ∧ @Ne Nat c2 45 ∧ @Ne Nat c c2) → (∀ p ∈ rest, @Ne Nat p.1 D ∧ @Ne Nat p.1 c ∧ @Ne Nat p.1 c2) → Q (.ref D) { s with heap := h', toks := tk }) :
    wpAny (model Challenge.rw_sn0075_01.row.prog w) (ktrTop dp un gd cn cs L a ccd cl outer) (call (.ref 64) [.int XI tx, .int BI tb]) Q E s := by
  subst hXI hBI
  have N0 : News h₀ L s.heap ((38, tabObj #[]) :: [] ++ (45, tabObj #[]) :: []) := fun p hp => N p (by
    simp only [List.cons_append, List.nil_append, List.mem_cons, List.not_mem_nil, or_false] at hp
    rcases hp with rfl | rfl <;> assumption)
  refine use_specX (rest := rest) F N (X := ((38, tabObj #[]) :: [] ++ (45, tabObj #[]) :: [] : List (Addr × Obj)).map (fun p => p.1)) (apart_of N0) (fun p hp => ⟨(hr p hp).1, fun hm => ?_⟩) (spec_idm B F X T hk hd hu (.inl ⟨rfl, rfl⟩) (.inl ⟨rfl, rfl⟩) N0 hC hC2 (by simp) hx hb hk1 hkk) ?_
  · simp only [List.cons_append, List.nil_append, List.map_cons, List.map_nil, List.mem_cons, List.not_mem_nil, or_false] at hm
    rcases hm with e | e
    · exact (hr p hp).2.1 e
    · exact (hr p hp).2.2 e
  rintro v h' tk F' N' E' ⟨D, t1, t2, ps', ex', ps2', ex2', rfl, hD, hgD, ⟨c, oc, vs, u, rfl, rfl, hv1, hv2⟩, ⟨c2, oc2, vs2, u2, rfl, rfl, hv3, hv4⟩, hall, hx1, -, hx2, -⟩
  rw [hq, h0] at hgD
  change h'.get? D = some (tupObj #[.int (q : Int) t1, .int 0 t2]) at hgD
  have gc : h'.get? c = some oc := hall (c, oc) (by simp)
  have gc2 : h'.get? c2 = some oc2 := hall (c2, oc2) (by simp)
  have g38 : h'.get? 38 = some (tabObj #[rawInt 73, rawInt 4, .ref c]) := hall (38, _) (by simp)
  have g45 : h'.get? 45 = some (tabObj #[rawInt 88, rawInt 4, .ref c2]) := hall (45, _) (by simp)
  have hc : s.heap.get? c = none := (hx1 (c, oc) (by simp)).resolve_left (fun h => nomatch h)
  have hc2 : s.heap.get? c2 = none := (hx2 (c2, oc2) (by simp)).resolve_left (fun h => nomatch h)
  have sD := fresh_sep N hD
  have sc := fresh_sep N hc
  have sc2 := fresh_sep N hc2
  refine kk D c c2 oc oc2 t1 t2 h' tk F' ?_ ⟨c, oc, vs, u, rfl, rfl, hv1, hv2⟩ ⟨c2, oc2, vs2, u2, rfl, rfl, hv3, hv4⟩ ⟨(sD _ h38).symm, (sD _ h45).symm, data_apart hv1 gc hgD, data_apart hv3 gc2 hgD, (sc _ h38).symm, (sc _ h45).symm, (sc2 _ h38).symm, (sc2 _ h45).symm, tab_apart hv1 hv2 hv3 hv4 gc gc2⟩ (fun p hp => ⟨sD p (hr p hp).1, sc p (hr p hp).1, sc2 p (hr p hp).1⟩)
  refine news_cons (news_cons (news_cons (news_cons (news_cons N' gc2 (fresh_of F hc2).1 (fresh_of F hc2).2) g45 (N _ h45).2.1 (N _ h45).2.2) gc (fresh_of F hc).1 (fresh_of F hc).2) g38 (N _ h38).2.1 (N _ h38).2.2) hgD (fresh_of F hD).1 (fresh_of F hD).2
theorem idm_next {E : Value → Shared → Prop} {Q : Value → Shared → Prop} {news : List (Addr × Obj)} (B : Below A₀ base outer h₀) (F : Fr h₀ L s.heap m) (X : (hd.heap_1 w.params).In h₀) (T : Top p loose mean mg mb h₀) (hk : cs.kind = .function) (hd : dp + 31 < recursionLimit) (hu : un + 310 < cLine)
    (N : News h₀ L s.heap news) {c c2 : Addr} {oc oc2 : Obj} (hT : TabHit 73 "_int2digits.<locals>.inner" #[rawInt 73, rawInt 4, .ref c] [(c, oc)]) (hT2 : TabHit 88 "_digits2int.<locals>.inner" #[rawInt 88, rawInt 4, .ref c2] [(c2, oc2)])
    (h38 : (38, tabObj #[rawInt 73, rawInt 4, .ref c]) ∈ news) (h45 : (45, tabObj #[rawInt 88, rawInt 4, .ref c2]) ∈ news) (hc : (c, oc) ∈ news) (hc2 : (c2, oc2) ∈ news) (hC : CodeHd h₀ 42 38) (hC2 : CodeHd h₀ 49 45)
    (hne : @Ne Nat c 45 ∧ @Ne Nat c2 38 ∧ @Ne Nat c c2)
    {x b q : Nat} {tx tb : Tok} {XI BI : Int} (hXI : XI = (x : Int)) (hBI : BI = (b : Int)) (hx : 0 < x ∧ x < 2 ^ 17) (hb : 0 < b ∧ b < 512)
    {k : Nat} (hk1 : 1 ≤ k ∧ k ≤ 17) (hkk : ((Builtin.Int.intBits (x : Int) : Int) + (Builtin.Int.intBits (b : Int) : Nat) - 1).fdiv (Builtin.Int.intBits (b : Int) : Nat) = (k : Int)) (hq : x / b = q) (h0 : x % b = 0)
    (kk : ∀ D t1 t2 h' tk, Fr h₀ L h' m → News h₀ L h' ((D, tupObj #[.int (q : Int) t1, .int 0 t2]) :: news) → (∀ p ∈ news, @Ne Nat p.1 D) → Q (.ref D) { s with heap := h', toks := tk }) :
    wpAny (model Challenge.rw_sn0075_01.row.prog w) (ktrTop dp un gd cn cs L a ccd cl outer) (call (.ref 64) [.int XI tx, .int BI tb]) Q E s := by
  subst hXI hBI
  have N0 : News h₀ L s.heap ((38, tabObj #[rawInt 73, rawInt 4, .ref c]) :: [(c, oc)] ++ (45, tabObj #[rawInt 88, rawInt 4, .ref c2]) :: [(c2, oc2)]) := fun p hp => N p (by
    simp only [List.cons_append, List.nil_append, List.mem_cons, List.not_mem_nil, or_false] at hp
    rcases hp with rfl | rfl | rfl | rfl <;> assumption)
  refine use_specX (rest := []) F N (X := ((38, tabObj #[rawInt 73, rawInt 4, .ref c]) :: [(c, oc)] ++ (45, tabObj #[rawInt 88, rawInt 4, .ref c2]) :: [(c2, oc2)]).map (·.1)) (apart_of N0) (fun p hp => nomatch hp) (spec_idm B F X T hk hd hu (.inr hT) (.inr hT2) N0 hC hC2 (fun p hp hm => ?_) hx hb hk1 hkk) ?_
  · simp only [List.mem_cons, List.not_mem_nil, or_false] at hp
    simp only [List.map_cons, List.map_nil, List.mem_cons, List.not_mem_nil, or_false] at hm
    rcases hp with rfl | rfl <;> rcases hm with e | e
    · exact absurd (show (38 : Nat) = 45 from e) (by decide)
    · exact hne.2.1 (show c2 = 38 from (show (38 : Nat) = c2 from e).symm)
    · exact hne.1 e
    · exact hne.2.2 e
  rintro v h' tk F' N' E' ⟨D, t1, t2, ps', ex', ps2', ex2', rfl, hD, hgD, ⟨c', oc', vs, u, rfl, he1, hv1, hv2⟩, ⟨c2', oc2', vs2, u2, rfl, he2, hv3, hv4⟩, hall, -, hx1, -, hx2⟩
  rw [hq, h0] at hgD
  change h'.get? D = some (tupObj #[.int (q : Int) t1, .int 0 t2]) at hgD
  have e1 := (hx1 (by simp)).symm.trans he1
  have e2 := (hx2 (by simp)).symm.trans he2
  cases e1
  cases e2
  subst he1 he2
  refine kk D t1 t2 h' tk F' (news_cons (fun q hq => ⟨?_, (N q hq).2⟩) hgD (fresh_of F hD).1 (fresh_of F hD).2) (fresh_sep N hD)
  by_cases hm : q.1 ∈ ((38, tabObj #[rawInt 73, rawInt 4, .ref c]) :: [(c, oc)] ++ (45, tabObj #[rawInt 88, rawInt 4, .ref c2]) :: [(c2, oc2)]).map (·.1)
  · obtain ⟨r, hr, e⟩ := List.mem_map.mp hm
    have g1 := hall r hr
    have g2 := (N0 r hr).1
    have g3 := (N q hq).1
    rw [← e, g2] at g3
    rw [← e, g1]; exact g3
  · exact E' _ _ hm (N q hq).1

theorem idm_first9 {E : Value → Shared → Prop} {Q : Value → Shared → Prop} {news : List (Addr × Obj)} (B : Below A₀ base outer h₀) (F : Fr h₀ L s.heap m) (X : (hd.heap_1 w.params).In h₀) (T : Top p loose mean mg mb h₀) (hk : cs.kind = .function) (hd : dp + 31 < recursionLimit) (hu : un + 310 < cLine)
    (N : News h₀ L s.heap news) (h38 : (38, tabObj #[]) ∈ news) (h45 : (45, tabObj #[]) ∈ news) (r38 : ∀ p ∈ news.dropLast.dropLast, @Ne Nat p.1 38) (r45 : ∀ p ∈ news.dropLast.dropLast, @Ne Nat p.1 45) (hC : CodeHd h₀ 42 38) (hC2 : CodeHd h₀ 49 45)
    {x b q : Nat} {tx tb : Tok} {XI BI : Int} (hXI : XI = (x : Int)) (hBI : BI = (b : Int)) (hx : 0 < x ∧ x < 2 ^ 17) (hb : 0 < b ∧ b < 512)
    {k : Nat} (hk1 : 1 ≤ k ∧ k ≤ 17) (hkk : ((Builtin.Int.intBits (x : Int) : Int) + (Builtin.Int.intBits (b : Int) : Nat) - 1).fdiv (Builtin.Int.intBits (b : Int) : Nat) = (k : Int)) (hq : x / b = q) (h0 : x % b = 0)
    (kk : ∀ D c c2 oc oc2 t1 t2 h' tk, Fr h₀ L h' m → News h₀ L h' ((D, tupObj #[.int (q : Int) t1, .int 0 t2]) :: (38, tabObj #[rawInt 73, rawInt 4, .ref c]) :: (c, oc) :: (45, tabObj #[rawInt 88, rawInt 4, .ref c2]) :: (c2, oc2) :: news.dropLast.dropLast) →
      TabHit 73 "_int2digits.<locals>.inner" #[rawInt 73, rawInt 4, .ref c] [(c, oc)] → TabHit 88 "_digits2int.<locals>.inner" #[rawInt 88, rawInt 4, .ref c2] [(c2, oc2)] →
      (@Ne Nat D 38 ∧ @Ne Nat D 45 ∧ @Ne Nat D c ∧ @Ne Nat D c2 ∧ @Ne Nat c 38 ∧ @Ne Nat c 45 ∧ @Ne Nat c2 38 ∧ @Ne Nat c2 45 ∧ @Ne Nat c c2) → (∀ p ∈ news.dropLast.dropLast, @Ne Nat p.1 D ∧ @Ne Nat p.1 c ∧ @Ne Nat p.1 c2) → Q (.ref D) { s with heap := h', toks := tk }) :
    wpAny (model Challenge.rw_sn0075_01.row.prog w) (ktrTop dp un gd cn cs L a ccd cl outer) (call (.ref 64) [.int XI tx, .int BI tb]) Q E s :=
  idm_first B F X T hk hd hu N h38 h45 (fun p hp => ⟨(List.dropLast_sublist _).subset ((List.dropLast_sublist _).subset hp), r38 p hp, r45 p hp⟩) hC hC2 hXI hBI hx hb hk1 hkk hq h0 kk
end
end PartL0
section PartLa
open PySem PySem.W PySem.Calls PySem.Spec PyProof.Rows
noncomputable def lawOf : Option (Arguments × List Stmt × Scope) := findDef "law" Challenge.pw_sn0075_01.main.body
/-- n statements of the law, from the i-th on -/
noncomputable def lawSeg (i n : Nat) : Option (List Stmt × Scope) := lawOf.map fun x => ((x.2.1.drop i).take n, x.2.2)
/-- the law's end: it gives True; the frame and the code tables stand -/
noncomputable def EndT (h₀ : Heap) (L : Addr) (s : Shared) (fl : Flow) (s' : Shared) : Prop :=
  fl = .ret (.bool true) ∧ ∃ h' dn tk m' ps ps2, s' = { s with heap := h', drawn := dn, toks := tk } ∧ Fr h₀ L h' m' ∧ News h₀ L h' [(38, tabObj ps), (45, tabObj ps2)]
section
variable {prog : Program} {w : World} {A : Around} {E : Value → Shared → Prop} {s : Shared} {env : Env} {Q : Flow → Shared → Prop}
theorem execs_split (a b : List Stmt) (env : Env) : execs (a ++ b) env = (execs a env >>= fun fl => match fl with | .next => execs b env | f => pure f) := by
  induction a with
  | nil => rw [arm_execs_nil, pure_bind]; rfl
  | cons x r ih =>
    rw [List.cons_append, arm_execs_cons, arm_execs_cons, bind_assoc]
    congr 1
    funext fl
    cases fl with
    | next => exact ih
    | ret v => exact (pure_bind _ _).symm
    | brk => exact (pure_bind _ _).symm
    | cont => exact (pure_bind _ _).symm
theorem execs_app {a b : List Stmt} (h : wpAny (model prog w) A (execs a env) (fun fl s' => match fl with | .next => wpAny (model prog w) A (execs b env) Q E s' | f => Q f s') E s) : wpAny (model prog w) A (execs (a ++ b) env) Q E s := by
  rw [execs_split]
  refine wpAny_bind (wpAny_mono h (fun fl s' hf => ?_) fun _ _ e => e)
  cases fl with
  | next => exact hf
  | ret v => exact wpAny_pure hf
  | brk => exact wpAny_pure hf
  | cont => exact wpAny_pure hf
end
end PartLa
section PartLb
theorem base_Lb : True := by
  w_top off
  k_with_none
  k_with "mine:step" => ((first | (k_unfold; (try dsimp only)) | (k_end; wrow_close) | walk1 | (dsimp only; walk1) | (leave1; walk_say "STEP leave1"; try dsimp only) | fail "no step"))
  k_with "storeName" => ((k_here; k_dflt (first | (refine' storeI ?FW7 ?NW7 ?_ ?aW7 ?bW7; (case FW7 => k_asm); (case NW7 => k_asm); (case aW7 => rfl); (case bW7 => rfl); k_whole; intro hq9 tq9 tkq9 Fq9 Nq9; (try k_sweep)) | (refine' storeU ?FW7 ?NW7 ?_ ?aW7 ?bW7; (case FW7 => k_asm); (case NW7 => k_asm); (case aW7 => rfl); (case bW7 => rfl); k_whole; intro hq9 tkq9 Fq9 Nq9; (try k_sweep)))))
  k_with "mine:pj" => (((rename (_ ∧ _) => z); first | exact z.1 | exact Zs z.1 | exact Zl z.1 | exact Zg z.1 | exact z.2 | exact Zs z.2 | exact Zl z.2 | exact Zg z.2 | exact z.2.1 | exact Zs z.2.1 | exact Zl z.2.1 | exact Zg z.2.1 | exact z.2.2 | exact Zs z.2.2 | exact Zl z.2.2 | exact Zg z.2.2 | exact z.2.2.1 | exact Zs z.2.2.1 | exact Zl z.2.2.1 | exact Zg z.2.2.1 | exact z.2.2.2 | exact Zs z.2.2.2 | exact Zl z.2.2.2 | exact Zg z.2.2.2 | exact z.2.2.2.1 | exact Zs z.2.2.2.1 | exact Zl z.2.2.2.1 | exact Zg z.2.2.2.1 | exact z.2.2.2.2 | exact Zs z.2.2.2.2 | exact Zl z.2.2.2.2 | exact Zg z.2.2.2.2 | exact z.2.2.2.2.1 | exact Zs z.2.2.2.2.1 | exact Zl z.2.2.2.2.1 | exact Zg z.2.2.2.2.1 | exact z.2.2.2.2.2 | exact Zs z.2.2.2.2.2 | exact Zl z.2.2.2.2.2 | exact Zg z.2.2.2.2.2 | exact z.2.2.2.2.2.1 | exact Zs z.2.2.2.2.2.1 | exact Zl z.2.2.2.2.2.1 | exact Zg z.2.2.2.2.2.1 | exact z.2.2.2.2.2.2 | exact Zs z.2.2.2.2.2.2 | exact Zl z.2.2.2.2.2.2 | exact Zg z.2.2.2.2.2.2 | exact z.2.2.2.2.2.2.1 | exact Zs z.2.2.2.2.2.2.1 | exact Zl z.2.2.2.2.2.2.1 | exact Zg z.2.2.2.2.2.2.1 | exact z.2.2.2.2.2.2.2 | exact Zs z.2.2.2.2.2.2.2 | exact Zl z.2.2.2.2.2.2.2 | exact Zg z.2.2.2.2.2.2.2 | exact z.2.2.2.2.2.2.2.1 | exact Zs z.2.2.2.2.2.2.2.1 | exact Zl z.2.2.2.2.2.2.2.1 | exact Zg z.2.2.2.2.2.2.2.1 | exact z.2.2.2.2.2.2.2.2 | exact Zs z.2.2.2.2.2.2.2.2 | exact Zl z.2.2.2.2.2.2.2.2 | exact Zg z.2.2.2.2.2.2.2.2 | exact z.2.2.2.2.2.2.2.2.1 | exact Zs z.2.2.2.2.2.2.2.2.1 | exact Zl z.2.2.2.2.2.2.2.2.1 | exact Zg z.2.2.2.2.2.2.2.2.1 | exact z.2.2.2.2.2.2.2.2.2.1 | exact Zs z.2.2.2.2.2.2.2.2.2.1 | exact Zl z.2.2.2.2.2.2.2.2.2.1 | exact Zg z.2.2.2.2.2.2.2.2.2.1 | exact z.2.2.2.2.2.2.2.2.2.2.1 | exact Zs z.2.2.2.2.2.2.2.2.2.2.1 | exact Zl z.2.2.2.2.2.2.2.2.2.2.1 | exact Zg z.2.2.2.2.2.2.2.2.2.2.1 | exact z.2.2.2.2.2.2.2.2.2.2.2.1 | exact Zs z.2.2.2.2.2.2.2.2.2.2.2.1 | exact Zl z.2.2.2.2.2.2.2.2.2.2.2.1 | exact Zg z.2.2.2.2.2.2.2.2.2.2.2.1 | exact z.2.2.2.2.2.2.2.2.2.2.2.2.1 | exact Zs z.2.2.2.2.2.2.2.2.2.2.2.2.1 | exact Zl z.2.2.2.2.2.2.2.2.2.2.2.2.1 | exact Zg z.2.2.2.2.2.2.2.2.2.2.2.2.1 | exact z.2.2.2.2.2.2.2.2.2.2.2.2.2.1 | exact Zs z.2.2.2.2.2.2.2.2.2.2.2.2.2.1 | exact Zl z.2.2.2.2.2.2.2.2.2.2.2.2.2.1 | exact Zg z.2.2.2.2.2.2.2.2.2.2.2.2.2.1 | (clear z; (k_extra "mine:pj"))))
  k_with "mine:ne" => (first | (with_reducible assumption) | exact Ne.symm (by with_reducible assumption) | exact ne_lt (by with_reducible assumption) | exact ne_gt (by with_reducible assumption) | exact ne_lt (lt_led (by with_reducible assumption) (by k_mem)) | exact ne_gt (lt_led (by with_reducible assumption) (by k_mem)) | ((try dsimp only); with_reducible (k_extra "mine:pj")) | assumption | exact Nat.ne_of_lt (Nat.lt_succ_self _) | exact Nat.ne_of_gt (Nat.lt_succ_self _) | (walk_say "K_NE OMEGA"; refine neN ?_; (try dsimp only); omega))
  k_with "mine:nes" => (first | (refine And.intro ?_ ?_ <;> (k_extra "mine:nes")) | k_ne)
  k_with "mine:in" => (first | (with_reducible exact List.mem_cons_self) | (with_reducible assumption) | ((with_reducible refine List.mem_cons_of_mem _ ?_); (k_extra "mine:in")) | exact List.mem_cons_self | (refine List.mem_cons_of_mem _ ?_; (k_extra "mine:in")) | (refine List.mem_append_left _ ?_; (k_extra "mine:in")) | (refine List.mem_append_right _ ?_; (k_extra "mine:in")))
  k_with "mine:sub" => (first | (with_reducible exact sub_id) | (with_reducible exact sub_nil) | ((with_reducible refine sub_cons ?haW7 ?hbW7); (case haW7 => (k_extra "mine:in")); (case hbW7 => (k_extra "mine:sub"))) | ((with_reducible refine sub_both ?haW7 ?hbW7); (case haW7 => (k_extra "mine:sub")); (case hbW7 => (k_extra "mine:sub"))) | ((with_reducible refine sub_skip ?_); (k_extra "mine:sub")) | ((with_reducible refine sub_right ?_); (k_extra "mine:sub")) | ((with_reducible refine sub_left ?_); (k_extra "mine:sub")) | (simp only [List.nil_append, List.cons_append]; (k_extra "mine:sub")))
  k_with "mine:keys" => (first | (k_dflt (exact keys_of rfl rfl)) | (walk_say "K_KEYS LONG"; repeat (first | exact True.intro | refine And.intro ⟨_, _, rfl, rfl⟩ ?_)))
  k_with "mine:enter0" => ((refine' enter0 ?k1W7 ?k2W7 ?k3W7 ?k4W7 ?kKW7 ?k8W7 ?k6W7 ?k7W7 ?k9W7 ?kBW7 ?_ ?c2W7 ?c3W7 ?c4W7 ?c5W7; (case kKW7 => assumption); (case k1W7 => k_asm); (case k2W7 => k_asm); (case k3W7 => k_asm); (case k4W7 => k_asm); (case k6W7 => k_is); (case k7W7 => k_is); (case k8W7 => ktr_room); (case k9W7 => exact BindsTo.of_eq rfl); (case c5W7 => decide); (case kBW7 => exact locs rfl); (case c2W7 => exact rfl); (case c3W7 => exact rfl); (case c4W7 => exact rfl); k_whole; intro Lq9 hq9 tkq9 Fq9 Nq9 Bq9 Xq9 Tq9; (try dsimp only); (try k_fold)))
  k_with "mine:ret" => (((all_goals (try dsimp only)); (all_goals (try k_unfold)); (all_goals (try dsimp only))))
  k_with "mine:same" => (first | exact fun _ _ => rfl | exact fun _ _ _ => rfl | exact same_fg | exact same_fgN | (refine same_upY ?_; (k_extra "mine:same")) | (refine same_up (by rfl) ?_; (k_extra "mine:same")) | (refine same_upN (by rfl) ?_; (k_extra "mine:same")) | (intros; (try dsimp only [forget, up]); (repeat' split); all_goals first | rfl | (exfalso; subst_vars; (rename (List.contains _ _ = false) => hz9); (revert hz9); decide) | (exfalso; (rename (List.contains _ _ = false) => hz9); (rename (List.contains _ _ = true) => hz8); rw [hz9] at hz8; exact Bool.noConfusion hz8) | (exfalso; subst_vars; contradiction)))
  trivial
open PySem PySem.W PySem.Calls PySem.Spec PyProof.Rows
theorem size34 {x : Int} (h : 0 ≤ x) : 3 + x.fmod 2 = 3 ∨ 3 + x.fmod 2 = 4 := by
  rw [Int.fmod_eq_emod_of_nonneg _ (by decide)]; omega
theorem szne1 {sz : Int} (h : sz = 3 ∨ sz = 4) : sz ≠ 0 := by omega
theorem szne2 {sz : Int} (h : sz = 3 ∨ sz = 4) : 10 * sz ≠ 0 := by omega
theorem comp_end1 {h₀ : Heap} {L I C D T ax : Addr} {m : Str → Option Value} {s₁ : Shared} {oI oC oD oT : Obj} {its : Array Value} {rest : Value → List (Addr × Obj) → Prop} {y : Value} {h' : Heap} {tk : Nat} {old : List (Addr × Obj)} {R : Prop}
    (F : Fr h₀ L h' m) (N : News h₀ L h' ((T, oT) :: (I, oI) :: (C, oC) :: (D, oD) :: old)) (l1 : @LT.lt Nat _ I T ∧ @LT.lt Nat _ C T ∧ @LT.lt Nat _ D T ∧ R) (off : LCg.Off3 I C D old) (hs : LCg.SrcAt h₀ ax its old) (r : rest y ((T, oT) :: old)) :
    LCg.CompEnd h₀ L m s₁ I oI C oC D oD (LCg.SrcAt h₀ ax its) rest y { s₁ with heap := h', toks := tk } := by
  refine LCg.CompEnd.intro F N ((T, oT) :: old) (fun p hp => ?_) ⟨⟨Nat.ne_of_gt l1.1, Nat.ne_of_gt l1.2.1, Nat.ne_of_gt l1.2.2.1⟩, off⟩ ?_ r
  · simp only [List.mem_cons] at hp ⊢
    rcases hp with h | h | h | h | h
    · exact .inr (.inl h)
    · exact .inr (.inr (.inl h))
    · exact .inr (.inr (.inr (.inl h)))
    · exact .inl h
    · exact .inr (.inr (.inr (.inr h)))
  · rcases hs with h | ⟨o, hm, r⟩
    · exact .inl h
    · exact .inr ⟨o, .tail _ hm, r⟩
theorem off1_mem {D : Addr} : ∀ {l : List (Addr × Obj)}, LCg.Off1 D l → ∀ p ∈ l, @Ne Nat p.1 D
  | [], _, _, h => nomatch h
  | _ :: _, x, p, h => by
    rcases List.mem_cons.mp h with rfl | h
    · exact x.1
    · exact off1_mem x.2 p h
theorem news_drop5 {h₀ h : Heap} {L : Addr} {a b c d e x : Addr × Obj} {r : List (Addr × Obj)} (N : News h₀ L h (a :: b :: c :: d :: e :: x :: r)) : News h₀ L h (a :: b :: c :: d :: e :: r) := fun p hp => N p (by
  simp only [List.mem_cons] at hp ⊢
  rcases hp with h | h | h | h | h | h
  · exact .inl h
  · exact .inr (.inl h)
  · exact .inr (.inr (.inl h))
  · exact .inr (.inr (.inr (.inl h)))
  · exact .inr (.inr (.inr (.inr (.inl h))))
  · exact .inr (.inr (.inr (.inr (.inr (.inr h))))))
/-- a term: its sign, its two letters -/
noncomputable def TermOk (sz : Int) (q : Nat × Nat × Nat) : Prop := q.1 < 5 ∧ (q.2.1 : Int) < sz ∧ (q.2.2 : Int) < sz
theorem item_sign {i : Int} (h0 : 0 ≤ i) (h5 : i < 5) : Txt.item (Str.ofString "&|<>^") i = signS i.toNat := by
  have h : i = 0 ∨ i = 1 ∨ i = 2 ∨ i = 3 ∨ i = 4 := by omega
  rcases h with rfl | rfl | rfl | rfl | rfl <;> decide +kernel
theorem termOf {x sz : Int} (hs : sz = 3 ∨ sz = 4) : ∃ q : Nat × Nat × Nat, TermOk sz q ∧ Txt.item (Str.ofString "&|<>^") ((x.fdiv 2).fmod 5) = signS q.1 ∧ (x.fdiv 10).fmod sz = (q.2.1 : Int) ∧ (x.fdiv (10 * sz)).fmod sz = (q.2.2 : Int) := by
  have p : (0 : Int) < sz := by omega
  have a0 := fmod_lo (n := 5) (x.fdiv 2) (by decide)
  have a1 := fmod_hi (n := 5) (x.fdiv 2) (by decide)
  have b0 := fmod_lo (x.fdiv 10) p
  have b1 := fmod_hi (x.fdiv 10) p
  have c0 := fmod_lo (x.fdiv (10 * sz)) p
  have c1 := fmod_hi (x.fdiv (10 * sz)) p
  exact ⟨(((x.fdiv 2).fmod 5).toNat, ((x.fdiv 10).fmod sz).toNat, ((x.fdiv (10 * sz)).fmod sz).toNat), ⟨by dsimp only; omega, by dsimp only; omega, by dsimp only; omega⟩, item_sign a0 a1, by dsimp only; omega, by dsimp only; omega⟩
noncomputable abbrev tmO (q : Nat × Nat × Nat) (t1 t2 t3 : Tok) : Obj := tupObj #[.str (signS q.1) t1, .int (q.2.1 : Int) t2, .int (q.2.2 : Int) t3]
theorem szlog {sz : Int} (h : sz = 3 ∨ sz = 4) : (10 * sz).natAbs.log2 < 9000 := by rcases h with rfl | rfl <;> decide +kernel
section
variable {w : World} {s : Shared} {h₀ : Heap} {L fa l : Addr} {m mg mb : Str → Option Value} {p : Program} {loose : List Str} {mean : ExcName → Option Value} {cd : Value} {vs : List Value} {ns : List Int} {o1 o2 o3 o4 o5 : Obj}
    {st : List Stmt} {sc : Scope} {Q : Flow → Shared → Prop}
theorem words_Lb_1 : True := by
  k_with "call ref" => ((k_here; k_dflt ( (refine' use_spec ?FW7 ?NW7 (spec_draw4 ?BW7 ?F1W7 ?XW7 ?TW7 ?hkW7 ?dW7 ?uW7 ?hlW7 ?hiW7 ?hfW7) ?_); (case FW7 => k_asm); (case NW7 => k_asm); (case BW7 => k_asm); (case F1W7 => k_asm); (case XW7 => k_asm); (case TW7 => k_asm); (case hkW7 => rfl); (case dW7 => ktr_room); (case uW7 => ktr_units); (case hlW7 => k_asm); (case hiW7 => k_asm); (case hfW7 => omega); (intro vq9 hq9 tkq9 Fq9 Nq9 Eq9 qq9; (obtain ⟨Dk, x0, x1, x2, x3, t0, t1, t2, t3, nk, qq9, hDk, hgk, hx0, hx1, hx2, hx3⟩ := qq9); subst qq9; (have hsepq9 := fresh_sep (by assumption) hDk); (simp only [List.mem_cons, forall_eq_or_imp] at hsepq9); (replace Nq9 := news_cons Nq9 hgk (fresh_of (by assumption) hDk).1 (fresh_of (by assumption) hDk).2)); (try k_sweep))))
  k_with "CompSrc" => ((k_here; k_dflt (refine LCg.CompSrc.ledger (its := #[_, _, _, _]) (by rfl) (by k_asm) (by k_asm) (by k_mem) (by first | size_fits | exact Nat.le_of_ble_eq_true rfl) ?_; intro gq9; lcg_lit)))
  k_with "binaryOp Mod int int" => ((k_here; (with_reducible refine mod_int ?kmaW7 ?_); (case kmaW7 => first | decide | assumption)))
  k_with "binaryOp FloorDiv int int" => ((k_here; (with_reducible refine floordiv_int ?kmaW7 ?_ (Or.inl (PyProof.noPylong_of_log2 ?kmbW7))); (case kmaW7 => first | decide | assumption); (case kmbW7 => first | decide +kernel | assumption)))
  k_with "subscriptTail" => ((k_here; (with_reducible show wpAny _ _ (subscriptTail _ _ (Value.str _ _) (Value.int (Int.fmod _ _) _)) _ _ _); (refine KXi.item (by kxi_len) (by exact Int.le_trans (by decide) (fmod_lo _ (by decide))) (by first | exact fmod_hi _ (by decide) | exact Int.lt_of_lt_of_le (fmod_hi _ (by decide)) (by decide)) (by decide) ?_); intro kxiE; clear kxiE))
  k_with "CompRest" => ((k_here; (with_unfolding_all refine LCg.CompRest.succ ?_); intro vq9 Iq9 oIq9 Cq9 oCq9 Dq9 mq9 hq9 tkq9 Eq9 hvq9 hCq9 hxq9 Fq9 Nq9 offq9 neq9; clear neq9; lcg_open hvq9))
  k_with "CompEnd" => ((k_here; k_dflt ((rename Fr _ _ _ _ => kFq9); (rename News _ _ _ _ => kNq9); (rename LCg.Off3 _ _ _ _ => kOq9); (refine' comp_end1 kFq9 kNq9 ?l1W7 kOq9 ?hsW7 ?_); (case l1W7 => assumption); (case hsW7 => exact Or.inr ⟨_, by k_mem, rfl, _, rfl⟩); (clear kOq9))))
  k_with "FinE" => ((k_here; (unfold LCg.FinE); intro Dq9 hq9 tkq9 Fq9 Nq9 o1q9; (try simp only [List.nil_append, List.cons_append] at Nq9); (try dsimp only)))
  trivial
set_option maxHeartbeats 4000000 in
theorem segA (he : lawSeg 0 3 = some (st, sc))
    (B : Below callerA h₀ [] h₀) (X : (hd.heap_1 w.params).In h₀) (T : Top p loose mean mg mb h₀) (hl : h₀.IsList l vs.toArray) (hi : IntsAre vs ns) (hfit : ns.length < 100)
    (l0 : @LT.lt Nat _ 45 L ∧ @LT.lt Nat _ 38 L) (c1 : o1.data = .cell none) (c2 : o2.data = .cell none)
    (F : Fr h₀ L s.heap m) (hm : m (Str.ofString "script") = some (.ref l)) (N : News h₀ L s.heap [(L + 1 + 1 + 1 + 1 + 1, o5), (L + 1 + 1 + 1 + 1, o4), (L + 1 + 1 + 1, o3), (L + 1 + 1, o2), (L + 1, o1), (45, tabObj #[]), (38, tabObj #[])])
    (kk : ∀ (TL T0 T1 T2 T3 : Addr) (q0 q1 q2 q3 : Nat × Nat × Nat) (sz : Int) (a0 a1 a2 a3 b0 b1 b2 b3 d0 d1 d2 d3 tz : Tok) (oz ot : Obj) (h' : Heap) (tk : Nat) (m' : Str → Option Value), (sz = 3 ∨ sz = 4) → TermOk sz q0 → TermOk sz q1 → TermOk sz q2 → TermOk sz q3 →
      oz.data = .cell (some (.int sz tz)) → ot.data = .cell (some (.ref TL)) → (@LT.lt Nat _ (L + 1 + 1 + 1 + 1 + 1) T0 ∧ @LT.lt Nat _ (L + 1 + 1 + 1 + 1 + 1) T1 ∧ @LT.lt Nat _ (L + 1 + 1 + 1 + 1 + 1) T2 ∧ @LT.lt Nat _ (L + 1 + 1 + 1 + 1 + 1) T3) →
      (@Ne Nat (L + 1) TL ∧ @Ne Nat (L + 1 + 1) TL ∧ @Ne Nat (L + 1 + 1 + 1) TL ∧ @Ne Nat (L + 1 + 1 + 1 + 1) TL ∧ @Ne Nat (L + 1 + 1 + 1 + 1 + 1) TL ∧ @Ne Nat 45 TL ∧ @Ne Nat 38 TL) →
      Fr h₀ L h' m' → News h₀ L h' [(TL, LCg.lst [.ref T0, .ref T1, .ref T2, .ref T3]), (T3, tmO q3 a3 b3 d3), (T2, tmO q2 a2 b2 d2), (T1, tmO q1 a1 b1 d1), (T0, tmO q0 a0 b0 d0), (L + 1 + 1 + 1 + 1 + 1, o5), (L + 1 + 1 + 1 + 1, o4), (L + 1 + 1 + 1, o3), (L + 1 + 1, ot), (L + 1, oz), (45, tabObj #[]), (38, tabObj #[])] → Q .next { s with heap := h', toks := tk }) :
    wpAny (model Challenge.rw_sn0075_01.row.prog w) (callerA.deeper (envOfC (Str.ofString "law") sc L fa cd)) (execs st (envOfC (Str.ofString "law") sc L fa cd)) Q (fun _ _ => False) s := by
  revert X; k_fill; intro X
  have he2 : lawSeg 0 3 = some ([_, _, _], _) := rfl
  rw [he] at he2
  cases he2
  clear he
  rw [known hm] at F
  (iterate 23 (k_extra "mine:step"))
  generalize hsz : 3 + Int.fmod _ 2 = sz
  have hsz' : sz = 3 ∨ sz = 4 := by rw [← hsz]; exact size34 (by assumption)
  have hz1 := szne1 hsz'
  have hz2 := szne2 hsz'
  have hz3 := szlog hsz'
  (k_extra "mine:step")
  (repeat (rename (@Ne Nat _ _ ∧ _) => hz9; clear hz9))
  k_steps
  (rename LCg.Off1 _ _ => o9)
  have d2 : @Ne Nat (L + 1 + 1) _ := off1_mem o9 (L + 1 + 1, o2) (by k_mem)
  have d3 : @Ne Nat (L + 1 + 1 + 1) _ := off1_mem o9 (L + 1 + 1 + 1, o3) (by k_mem)
  have d4 : @Ne Nat (L + 1 + 1 + 1 + 1) _ := off1_mem o9 (L + 1 + 1 + 1 + 1, o4) (by k_mem)
  have d5 : @Ne Nat (L + 1 + 1 + 1 + 1 + 1) _ := off1_mem o9 (L + 1 + 1 + 1 + 1 + 1, o5) (by k_mem)
  have d1 : @Ne Nat (L + 1) _ := off1_mem o9 (L + 1, _) (by k_mem)
  have d45 : @Ne Nat 45 _ := off1_mem o9 (45, _) (by k_mem)
  have d38 : @Ne Nat 38 _ := off1_mem o9 (38, _) (by k_mem)
  clear o9
  (rename News _ _ _ _ => kN); replace kN := news_drop5 kN
  k_steps
  (rename Fr _ _ _ _ => kF); (rename News _ _ _ _ => kN); (rename Obj.data _ = Data.cell (some (Value.ref _)) => kc2); (rename Obj.data _ = Data.cell (some (Value.int _ _)) => kc1)
  obtain ⟨q0, k0, e0, f0, g0⟩ := termOf (x := x0) hsz'
  obtain ⟨q1, k1, e1, f1, g1⟩ := termOf (x := x1) hsz'
  obtain ⟨q2, k2, e2, f2, g2⟩ := termOf (x := x2) hsz'
  obtain ⟨q3, k3, e3, f3, g3⟩ := termOf (x := x3) hsz'
  rw [e0, f0, g0, e1, f1, g1, e2, f2, g2, e3, f3, g3] at kN
  refine kk _ _ _ _ _ q0 q1 q2 q3 sz _ _ _ _ _ _ _ _ _ _ _ _ _ _ _ _ _ _ hsz' k0 k1 k2 k3 kc1 kc2 ?_ ⟨d1, d2, d3, d4, d5, d45, d38⟩ kF kN
  clear d1 d2 d3 d4 d5 d45 d38 kF kN kk
  omega
end
end PartLb
section PartLd
theorem base_Ld : True := by
  w_top off
  k_with_none
  k_with "mine:step" => ((first | (k_unfold; (try dsimp only)) | (k_end; wrow_close) | walk1 | (dsimp only; walk1) | (leave1; walk_say "STEP leave1"; try dsimp only) | fail "no step"))
  k_with "storeName" => ((k_here; k_dflt (first | (refine' storeI ?FW7 ?NW7 ?_ ?aW7 ?bW7; (case FW7 => k_asm); (case NW7 => k_asm); (case aW7 => rfl); (case bW7 => rfl); k_whole; intro hq9 tq9 tkq9 Fq9 Nq9; (try k_sweep)) | (refine' storeU ?FW7 ?NW7 ?_ ?aW7 ?bW7; (case FW7 => k_asm); (case NW7 => k_asm); (case aW7 => rfl); (case bW7 => rfl); k_whole; intro hq9 tkq9 Fq9 Nq9; (try k_sweep)))))
  k_with "mine:pj" => (((rename (_ ∧ _) => z); first | exact z.1 | exact Zs z.1 | exact Zl z.1 | exact Zg z.1 | exact z.2 | exact Zs z.2 | exact Zl z.2 | exact Zg z.2 | exact z.2.1 | exact Zs z.2.1 | exact Zl z.2.1 | exact Zg z.2.1 | exact z.2.2 | exact Zs z.2.2 | exact Zl z.2.2 | exact Zg z.2.2 | exact z.2.2.1 | exact Zs z.2.2.1 | exact Zl z.2.2.1 | exact Zg z.2.2.1 | exact z.2.2.2 | exact Zs z.2.2.2 | exact Zl z.2.2.2 | exact Zg z.2.2.2 | exact z.2.2.2.1 | exact Zs z.2.2.2.1 | exact Zl z.2.2.2.1 | exact Zg z.2.2.2.1 | exact z.2.2.2.2 | exact Zs z.2.2.2.2 | exact Zl z.2.2.2.2 | exact Zg z.2.2.2.2 | exact z.2.2.2.2.1 | exact Zs z.2.2.2.2.1 | exact Zl z.2.2.2.2.1 | exact Zg z.2.2.2.2.1 | exact z.2.2.2.2.2 | exact Zs z.2.2.2.2.2 | exact Zl z.2.2.2.2.2 | exact Zg z.2.2.2.2.2 | exact z.2.2.2.2.2.1 | exact Zs z.2.2.2.2.2.1 | exact Zl z.2.2.2.2.2.1 | exact Zg z.2.2.2.2.2.1 | exact z.2.2.2.2.2.2 | exact Zs z.2.2.2.2.2.2 | exact Zl z.2.2.2.2.2.2 | exact Zg z.2.2.2.2.2.2 | exact z.2.2.2.2.2.2.1 | exact Zs z.2.2.2.2.2.2.1 | exact Zl z.2.2.2.2.2.2.1 | exact Zg z.2.2.2.2.2.2.1 | exact z.2.2.2.2.2.2.2 | exact Zs z.2.2.2.2.2.2.2 | exact Zl z.2.2.2.2.2.2.2 | exact Zg z.2.2.2.2.2.2.2 | exact z.2.2.2.2.2.2.2.1 | exact Zs z.2.2.2.2.2.2.2.1 | exact Zl z.2.2.2.2.2.2.2.1 | exact Zg z.2.2.2.2.2.2.2.1 | exact z.2.2.2.2.2.2.2.2 | exact Zs z.2.2.2.2.2.2.2.2 | exact Zl z.2.2.2.2.2.2.2.2 | exact Zg z.2.2.2.2.2.2.2.2 | exact z.2.2.2.2.2.2.2.2.1 | exact Zs z.2.2.2.2.2.2.2.2.1 | exact Zl z.2.2.2.2.2.2.2.2.1 | exact Zg z.2.2.2.2.2.2.2.2.1 | exact z.2.2.2.2.2.2.2.2.2.1 | exact Zs z.2.2.2.2.2.2.2.2.2.1 | exact Zl z.2.2.2.2.2.2.2.2.2.1 | exact Zg z.2.2.2.2.2.2.2.2.2.1 | exact z.2.2.2.2.2.2.2.2.2.2.1 | exact Zs z.2.2.2.2.2.2.2.2.2.2.1 | exact Zl z.2.2.2.2.2.2.2.2.2.2.1 | exact Zg z.2.2.2.2.2.2.2.2.2.2.1 | exact z.2.2.2.2.2.2.2.2.2.2.2.1 | exact Zs z.2.2.2.2.2.2.2.2.2.2.2.1 | exact Zl z.2.2.2.2.2.2.2.2.2.2.2.1 | exact Zg z.2.2.2.2.2.2.2.2.2.2.2.1 | exact z.2.2.2.2.2.2.2.2.2.2.2.2.1 | exact Zs z.2.2.2.2.2.2.2.2.2.2.2.2.1 | exact Zl z.2.2.2.2.2.2.2.2.2.2.2.2.1 | exact Zg z.2.2.2.2.2.2.2.2.2.2.2.2.1 | exact z.2.2.2.2.2.2.2.2.2.2.2.2.2.1 | exact Zs z.2.2.2.2.2.2.2.2.2.2.2.2.2.1 | exact Zl z.2.2.2.2.2.2.2.2.2.2.2.2.2.1 | exact Zg z.2.2.2.2.2.2.2.2.2.2.2.2.2.1 | (clear z; (k_extra "mine:pj"))))
  k_with "mine:ne" => (first | (with_reducible assumption) | exact Ne.symm (by with_reducible assumption) | exact ne_lt (by with_reducible assumption) | exact ne_gt (by with_reducible assumption) | exact ne_lt (lt_led (by with_reducible assumption) (by k_mem)) | exact ne_gt (lt_led (by with_reducible assumption) (by k_mem)) | ((try dsimp only); with_reducible (k_extra "mine:pj")) | assumption | exact Nat.ne_of_lt (Nat.lt_succ_self _) | exact Nat.ne_of_gt (Nat.lt_succ_self _) | (walk_say "K_NE OMEGA"; refine neN ?_; (try dsimp only); omega))
  k_with "mine:nes" => (first | (refine And.intro ?_ ?_ <;> (k_extra "mine:nes")) | k_ne)
  k_with "mine:in" => (first | (with_reducible exact List.mem_cons_self) | (with_reducible assumption) | ((with_reducible refine List.mem_cons_of_mem _ ?_); (k_extra "mine:in")) | exact List.mem_cons_self | (refine List.mem_cons_of_mem _ ?_; (k_extra "mine:in")) | (refine List.mem_append_left _ ?_; (k_extra "mine:in")) | (refine List.mem_append_right _ ?_; (k_extra "mine:in")))
  k_with "mine:sub" => (first | (with_reducible exact sub_id) | (with_reducible exact sub_nil) | ((with_reducible refine sub_cons ?haW7 ?hbW7); (case haW7 => (k_extra "mine:in")); (case hbW7 => (k_extra "mine:sub"))) | ((with_reducible refine sub_both ?haW7 ?hbW7); (case haW7 => (k_extra "mine:sub")); (case hbW7 => (k_extra "mine:sub"))) | ((with_reducible refine sub_skip ?_); (k_extra "mine:sub")) | ((with_reducible refine sub_right ?_); (k_extra "mine:sub")) | ((with_reducible refine sub_left ?_); (k_extra "mine:sub")) | (simp only [List.nil_append, List.cons_append]; (k_extra "mine:sub")))
  k_with "mine:keys" => (first | (k_dflt (exact keys_of rfl rfl)) | (walk_say "K_KEYS LONG"; repeat (first | exact True.intro | refine And.intro ⟨_, _, rfl, rfl⟩ ?_)))
  k_with "mine:enter0" => ((refine' enter0 ?k1W7 ?k2W7 ?k3W7 ?k4W7 ?kKW7 ?k8W7 ?k6W7 ?k7W7 ?k9W7 ?kBW7 ?_ ?c2W7 ?c3W7 ?c4W7 ?c5W7; (case kKW7 => assumption); (case k1W7 => k_asm); (case k2W7 => k_asm); (case k3W7 => k_asm); (case k4W7 => k_asm); (case k6W7 => k_is); (case k7W7 => k_is); (case k8W7 => ktr_room); (case k9W7 => exact BindsTo.of_eq rfl); (case c5W7 => decide); (case kBW7 => exact locs rfl); (case c2W7 => exact rfl); (case c3W7 => exact rfl); (case c4W7 => exact rfl); k_whole; intro Lq9 hq9 tkq9 Fq9 Nq9 Bq9 Xq9 Tq9; (try dsimp only); (try k_fold)))
  k_with "mine:ret" => (((all_goals (try dsimp only)); (all_goals (try k_unfold)); (all_goals (try dsimp only))))
  k_with "mine:same" => (first | exact fun _ _ => rfl | exact fun _ _ _ => rfl | exact same_fg | exact same_fgN | (refine same_upY ?_; (k_extra "mine:same")) | (refine same_up (by rfl) ?_; (k_extra "mine:same")) | (refine same_upN (by rfl) ?_; (k_extra "mine:same")) | (intros; (try dsimp only [forget, up]); (repeat' split); all_goals first | rfl | (exfalso; subst_vars; (rename (List.contains _ _ = false) => hz9); (revert hz9); decide) | (exfalso; (rename (List.contains _ _ = false) => hz9); (rename (List.contains _ _ = true) => hz8); rw [hz9] at hz8; exact Bool.noConfusion hz8) | (exfalso; subst_vars; contradiction)))
  trivial
open PySem PySem.W PySem.Calls PySem.Spec PyProof.Rows
theorem words_Ld_1 : True := by
  k_with "execs cons" => ((k_here; (with_reducible refine execs_let ?_); intro qk))
  trivial
theorem eachL_of {h₀ : Heap} {k : Str} {P : Value → Prop} {i : Int} (h : ∀ t, P (.int i t)) : ∀ {D : List (Str × KTD.Dat)}, KTD.datumAt k D = some (.flat (.int i)) → KTD.EachL h₀ k P D
  | [], hd => by simp [KTD.datumAt] at hd
  | (x, d) :: D, hd => by
    have hd' : (if decide (k = x) = true then some d else KTD.datumAt k D) = some (.flat (.int i)) := hd
    by_cases hx : k = x
    · rw [if_pos (decide_eq_true hx)] at hd'; cases hd'; exact KTD.eachL_hit hx h
    · rw [if_neg (by simp [hx])] at hd'; exact KTD.eachL_miss hx (eachL_of h hd')
noncomputable def signTok : Nat → Int
  | 0 => 19
  | 1 => 18
  | 2 => 20
  | 3 => 21
  | _ => 32
/-- the row of four terms -/
noncomputable def rowOf (q0 q1 q2 q3 : Nat × Nat × Nat) : List Int :=
  [32, signTok q0.1, 256 + (q0.2.1 : Int), 256 + (q0.2.2 : Int), 32, signTok q1.1, 256 + (q1.2.1 : Int), 256 + (q1.2.2 : Int), 32, signTok q2.1, 256 + (q2.2.1 : Int), 256 + (q2.2.2 : Int), 32, signTok q3.1, 256 + (q3.2.1 : Int), 256 + (q3.2.2 : Int), 0]
theorem ledger_list {h₀ h : Heap} {L a : Addr} {news : List (Addr × Obj)} {vs : List Value} {n : Nat} (N : News h₀ L h news) (hm : (a, W.listOf vs.toArray n) ∈ news) : h.IsList a vs.toArray := ⟨_, (N _ hm).1, rfl, _, rfl⟩
theorem i2d_hit {w : World} {A₀ : Around} {s : Shared} {base h₀ : Heap} {outer : List Env} {L : Addr} {m mg mb : Str → Option Value} {p : Program} {loose : List Str} {mean : ExcName → Option Value}
  {dp un : Nat} {gd : Option (List Code)} {cn : Str} {cs : Scope} {a : Addr} {ccd : Value} {cl : List (Str × Addr)} {E : Value → Shared → Prop} {Q : Value → Shared → Prop} {news : List (Addr × Obj)} (B : Below A₀ base outer h₀) (F : Fr h₀ L s.heap m) (X : (hd.heap_1 w.params).In h₀) (T : Top p loose mean mg mb h₀) (hk : cs.kind = .function) (hd : dp + 20 < recursionLimit) (hu : un + 200 < cLine)
    (N : News h₀ L s.heap news) {c : Addr} {oc : Obj} (hT : TabHit 73 "_int2digits.<locals>.inner" #[rawInt 73, rawInt 4, .ref c] [(c, oc)])
    (h38 : (38, tabObj #[rawInt 73, rawInt 4, .ref c]) ∈ news) (hc : (c, oc) ∈ news) (hC : CodeHd h₀ 42 38)
    {x n : Nat} {tx tn : Tok} {XI NI : Int} (hXI : XI = (x : Int)) (hNI : NI = (n : Int)) (hx : 0 < x ∧ x < 2 ^ 17) (hn : 1 ≤ n ∧ n ≤ 9)
    {k : Nat} (hk1 : 1 ≤ k ∧ k ≤ 17) (hkk : ((Builtin.Int.intBits (x : Int) : Int) + n - 1).fdiv n = (k : Int))
    (kk : ∀ D vals k0 h' tk, Fr h₀ L h' m → News h₀ L h' ((D, W.listOf vals.toArray k0) :: news) → (∀ p ∈ news, @Ne Nat p.1 D) → IntsAre vals (digs n k x) → Q (.ref D) { s with heap := h', toks := tk }) :
    wpAny (model Challenge.rw_sn0075_01.row.prog w) (ktrTop dp un gd cn cs L a ccd cl outer) (call (.ref 43) [.int XI tx, .int NI tn]) Q E s := by
  subst hXI hNI
  have N0 : News h₀ L s.heap ((38, tabObj #[rawInt 73, rawInt 4, .ref c]) :: [(c, oc)]) := fun p hp => N p (by
    simp only [List.mem_cons, List.not_mem_nil, or_false] at hp
    rcases hp with rfl | rfl <;> assumption)
  refine use_specX (rest := []) F N (X := ((38, tabObj #[rawInt 73, rawInt 4, .ref c]) :: [(c, oc)]).map (·.1)) (apart_of N0) (fun p hp => nomatch hp) (spec_i2d B F X T hk hd hu (.inr hT) N0 hC hx.1 hx.2 hn hk1 hkk) ?_
  rintro v h' tk F' N' E' ⟨D, vals, k0, ps', ex', rfl, hD, hgD, hI, ⟨c', oc', vs, u, rfl, he1, hv1, hv2⟩, hall, -, hx1⟩
  have e1 := (hx1 (by simp)).symm.trans he1
  cases e1
  subst he1
  refine kk D vals k0 h' tk F' (news_cons (fun q hq => ⟨?_, (N q hq).2⟩) hgD (fresh_of F hD).1 (fresh_of F hD).2) (fresh_sep N hD) hI
  by_cases hm : q.1 ∈ ((38, tabObj #[rawInt 73, rawInt 4, .ref c]) :: [(c, oc)]).map (·.1)
  · obtain ⟨r, hr, e⟩ := List.mem_map.mp hm
    have g1 := hall r hr
    have g2 := (N0 r hr).1
    have g3 := (N q hq).1
    rw [← e, g2] at g3
    rw [← e, g1]; exact g3
  · exact E' _ _ hm (N q hq).1
theorem ledger_lst {h₀ h : Heap} {L a : Addr} {news : List (Addr × Obj)} {vs : List Value} (N : News h₀ L h news) (hm : (a, LCg.lst vs) ∈ news) : h.IsList a vs.toArray := ⟨_, (N _ hm).1, rfl, _, rfl⟩
theorem term_at {h₀ h : Heap} {L a : Addr} {news : List (Addr × Obj)} {q : Nat × Nat × Nat} {t1 t2 t3 : Tok} (N : News h₀ L h news) (hm : (a, tmO q t1 t2 t3) ∈ news) : TermAt h (.ref a) q := ⟨a, t1, t2, t3, rfl, News.isTup N hm⟩
theorem terms4 {h : Heap} {T0 T1 T2 T3 : Addr} {q0 q1 q2 q3 : Nat × Nat × Nat} (h0 : TermAt h (.ref T0) q0) (h1 : TermAt h (.ref T1) q1) (h2 : TermAt h (.ref T2) q2) (h3 : TermAt h (.ref T3) q3) :
    ∀ (i : Nat) (v : Value) (q : Nat × Nat × Nat), [Value.ref T0, Value.ref T1, Value.ref T2, Value.ref T3][i]? = some v → [q0, q1, q2, q3][i]? = some q → TermAt h v q := by
  intro i v q hv hq
  match i with
  | 0 => cases hv; cases hq; exact h0
  | 1 => cases hv; cases hq; exact h1
  | 2 => cases hv; cases hq; exact h2
  | 3 => cases hv; cases hq; exact h3
  | i + 4 => simp at hv
theorem comp_end0 {h₀ : Heap} {L I C D : Addr} {m : Str → Option Value} {s₁ : Shared} {oI oC oD : Obj} {S : List (Addr × Obj) → Prop} {r : Int} {t : Tok} {h' : Heap} {tk : Nat} {news : List (Addr × Obj)}
    (F : Fr h₀ L h' m) (N : News h₀ L h' ((I, oI) :: (C, oC) :: (D, oD) :: news)) (off : LCg.Off3 I C D news) (hs : S news) :
    LCg.CompEnd h₀ L m s₁ I oI C oC D oD S (fun y news' => KCfEl news r y news') (.int r t) { s₁ with heap := h', toks := tk } :=
  LCg.CompEnd.intro F N news (fun _ hp => hp) off hs ⟨rfl, t, rfl⟩
theorem news_drop2 {h₀ h : Heap} {L : Addr} {a b x : Addr × Obj} {r : List (Addr × Obj)} (N : News h₀ L h (a :: b :: x :: r)) : News h₀ L h (a :: b :: r) := fun p hp => N p (by
  exact sub_app (by (k_extra "mine:sub")) hp)
theorem news_pick9 {h₀ h : Heap} {L : Addr} {a1 a2 a3 a4 a5 a6 a7 a8 a9 a10 a11 a12 a13 a14 a15 a16 a17 a18 : Addr × Obj} (N : News h₀ L h [a1, a2, a3, a4, a5, a6, a7, a8, a9, a10, a11, a12, a13, a14, a15, a16, a17, a18]) : News h₀ L h [a1, a2, a4, a6, a8, a14, a15, a16, a18] := fun p hp => N p (by
  exact sub_app (by (k_extra "mine:sub")) hp)
theorem five {P : Nat → Prop} (h0 : P 0) (h1 : P 1) (h2 : P 2) (h3 : P 3) (h4 : P 4) : ∀ j, j < 5 → P j
  | 0, _ => h0
  | 1, _ => h1
  | 2, _ => h2
  | 3, _ => h3
  | 4, _ => h4
  | n + 5, h => absurd h (by omega)
theorem sign_item {prog : Program} {w : World} {A : Around} {E : Value → Shared → Prop} {s : Shared} {h₀ : Heap} {a : Addr} {D : List (Str × KTD.Dat)} {tk : Tok} {q : Nat} {value slice : Expr} {Q : Value → Shared → Prop} (T : KTD.Here h₀ s.heap a D)
    (hD : ∀ j, j < 5 → KTD.datumAt (signS j) D = some (.flat (.int (signTok j)))) (hq : q < 5) (h : ∀ t, Q (.int (signTok q) t) { s with toks := s.toks + 1 })
    (hs : subscripted slice false (.ref a) (.str (signS q) tk) = operate [.ref a, .str (signS q) tk] (getItem (.ref a) (.str (signS q) tk)) := by with_unfolding_all rfl) (hg : ∀ r, letTemporaryGo value (.ref a) r = pure () := by intro _; with_unfolding_all rfl) :
    wpAny (model prog w) A (subscriptTail value slice (.ref a) (.str (signS q) tk)) Q E s :=
  KTD.item_text T (by rw [← KTD.isSome_datumAt, hD q hq]; rfl) (eachL_of h (hD q hq)) hs hg
section
variable {w : World} {s : Shared} {h₀ : Heap} {L fa l TL T0 T1 T2 T3 LL c c2 : Addr} {m mg mb : Str → Option Value} {p : Program} {loose : List Str} {mean : ExcName → Option Value} {cd : Value} {o3 o4 o5 oz ot oc oc2 oL o38 o45 : Obj}
    {st : List Stmt} {sc : Scope} {Q : Flow → Shared → Prop} {q0 q1 q2 q3 : Nat × Nat × Nat} {a0 a1 a2 a3 b0 b1 b2 b3 d0 d1 d2 d3 tz : Tok}
theorem words_Ld_2 : True := by
  k_with "exec For Tuple Name cons nil" => ((k_here; (rename Fr _ _ _ _ => lFq9); (with_unfolding_all refine' For_turns lFq9 ?_); k_whole))
  k_with "subscriptTail" => ((k_here; (with_reducible show wpAny _ _ (subscriptTail _ _ (Value.ref _) (Value.str (signS _) _)) _ _ _); (try kt_k); k_dflt ((rename KTD.TextTab _ _ _ => ttX); (with_unfolding_all refine' sign_item ⟨ttX, ?TkW7⟩ ?hDW7 ?hqW7 ?_); (case TkW7 => exact Fr.keep (by assumption)); (case hqW7 => assumption); (case hDW7 => exact five (by with_unfolding_all rfl) (by with_unfolding_all rfl) (by with_unfolding_all rfl) (by with_unfolding_all rfl) (by with_unfolding_all rfl)); intro tq9)))
  trivial
set_option maxHeartbeats 4000000 in
theorem segC (he : lawSeg 7 3 = some (st, sc))
    (B : Below callerA h₀ [] h₀) (X : (hd.heap_1 w.params).In h₀) (T : Top p loose mean mg mb h₀) (ct : ot.data = .cell (some (.ref TL)))
    (hq0 : q0.1 < 5) (hq1 : q1.1 < 5) (hq2 : q2.1 < 5) (hq3 : q3.1 < 5)
    (F : Fr h₀ L s.heap m) (N : News h₀ L s.heap [(38, o38), (c, oc), (45, o45), (c2, oc2), (LL, oL), (TL, LCg.lst [.ref T0, .ref T1, .ref T2, .ref T3]), (T3, tmO q3 a3 b3 d3), (T2, tmO q2 a2 b2 d2), (T1, tmO q1 a1 b1 d1), (T0, tmO q0 a0 b0 d0), (L + 1 + 1 + 1 + 1 + 1, o5), (L + 1 + 1 + 1 + 1, o4), (L + 1 + 1 + 1, o3), (L + 1 + 1, ot), (L + 1, oz)])
    (kk : ∀ (RL : Addr) (vr : List Value) (n : Nat) (h' : Heap) (tk : Nat) (m' : Str → Option Value), IntsAre vr (rowOf q0 q1 q2 q3) → m' (Str.ofString "row") = some (.ref RL) → m' (Str.ofString "full") = m (Str.ofString "full") → m' (Str.ofString "letters") = m (Str.ofString "letters") →
      (@LT.lt Nat _ 38 RL ∧ @LT.lt Nat _ c RL ∧ @LT.lt Nat _ (L + 1 + 1 + 1 + 1 + 1) RL) → Fr h₀ L h' m' →
      News h₀ L h' [(RL, W.listOf vr.toArray n), (38, o38), (c, oc), (45, o45), (c2, oc2), (LL, oL), (TL, LCg.lst [.ref T0, .ref T1, .ref T2, .ref T3]), (T3, tmO q3 a3 b3 d3), (T2, tmO q2 a2 b2 d2), (T1, tmO q1 a1 b1 d1), (T0, tmO q0 a0 b0 d0), (L + 1 + 1 + 1 + 1 + 1, o5), (L + 1 + 1 + 1 + 1, o4), (L + 1 + 1 + 1, o3), (L + 1 + 1, ot), (L + 1, oz)] → Q .next { s with heap := h', toks := tk }) :
    wpAny (model Challenge.rw_sn0075_01.row.prog w) (callerA.deeper (envOfC (Str.ofString "law") sc L fa cd)) (execs st (envOfC (Str.ofString "law") sc L fa cd)) Q (fun _ _ => False) s := by
  revert X; k_fill; intro X
  have he2 : lawSeg 7 3 = some ([_, _, _], _) := rfl
  rw [he] at he2
  cases he2
  clear he
  repeat (first | (dsimp only; walk1) | walk1)
  (rename Fr _ _ _ _ => kF); (rename News _ _ _ _ => kN)
  refine' kk _ [_, _, _, _, _, _, _, _, _, _, _, _, _, _, _, _, _] _ _ _ _ ?hI ?z1 ?z2 ?z3 ?hl kF (fun p hp => kN p (.tail _ (.tail _ (.tail _ (.tail _ hp)))))
  case z1 => exact rfl
  case z2 => exact rfl
  case z3 => exact rfl
  case hI => (unfold rowOf; repeat constructor)
  case hl => clear kN kF kk; omega
end
end PartLd
section PartLc3
theorem base_Lc3 : True := by
  w_top off
  k_with_none
  k_with "mine:step" => ((first | (k_unfold; (try dsimp only)) | (k_end; wrow_close) | walk1 | (dsimp only; walk1) | (leave1; walk_say "STEP leave1"; try dsimp only) | fail "no step"))
  k_with "storeName" => ((k_here; k_dflt (first | (refine' storeI ?FW7 ?NW7 ?_ ?aW7 ?bW7; (case FW7 => k_asm); (case NW7 => k_asm); (case aW7 => rfl); (case bW7 => rfl); k_whole; intro hq9 tq9 tkq9 Fq9 Nq9; (try k_sweep)) | (refine' storeU ?FW7 ?NW7 ?_ ?aW7 ?bW7; (case FW7 => k_asm); (case NW7 => k_asm); (case aW7 => rfl); (case bW7 => rfl); k_whole; intro hq9 tkq9 Fq9 Nq9; (try k_sweep)))))
  k_with "mine:pj" => (((rename (_ ∧ _) => z); first | exact z.1 | exact Zs z.1 | exact Zl z.1 | exact Zg z.1 | exact z.2 | exact Zs z.2 | exact Zl z.2 | exact Zg z.2 | exact z.2.1 | exact Zs z.2.1 | exact Zl z.2.1 | exact Zg z.2.1 | exact z.2.2 | exact Zs z.2.2 | exact Zl z.2.2 | exact Zg z.2.2 | exact z.2.2.1 | exact Zs z.2.2.1 | exact Zl z.2.2.1 | exact Zg z.2.2.1 | exact z.2.2.2 | exact Zs z.2.2.2 | exact Zl z.2.2.2 | exact Zg z.2.2.2 | exact z.2.2.2.1 | exact Zs z.2.2.2.1 | exact Zl z.2.2.2.1 | exact Zg z.2.2.2.1 | exact z.2.2.2.2 | exact Zs z.2.2.2.2 | exact Zl z.2.2.2.2 | exact Zg z.2.2.2.2 | exact z.2.2.2.2.1 | exact Zs z.2.2.2.2.1 | exact Zl z.2.2.2.2.1 | exact Zg z.2.2.2.2.1 | exact z.2.2.2.2.2 | exact Zs z.2.2.2.2.2 | exact Zl z.2.2.2.2.2 | exact Zg z.2.2.2.2.2 | exact z.2.2.2.2.2.1 | exact Zs z.2.2.2.2.2.1 | exact Zl z.2.2.2.2.2.1 | exact Zg z.2.2.2.2.2.1 | exact z.2.2.2.2.2.2 | exact Zs z.2.2.2.2.2.2 | exact Zl z.2.2.2.2.2.2 | exact Zg z.2.2.2.2.2.2 | exact z.2.2.2.2.2.2.1 | exact Zs z.2.2.2.2.2.2.1 | exact Zl z.2.2.2.2.2.2.1 | exact Zg z.2.2.2.2.2.2.1 | exact z.2.2.2.2.2.2.2 | exact Zs z.2.2.2.2.2.2.2 | exact Zl z.2.2.2.2.2.2.2 | exact Zg z.2.2.2.2.2.2.2 | exact z.2.2.2.2.2.2.2.1 | exact Zs z.2.2.2.2.2.2.2.1 | exact Zl z.2.2.2.2.2.2.2.1 | exact Zg z.2.2.2.2.2.2.2.1 | exact z.2.2.2.2.2.2.2.2 | exact Zs z.2.2.2.2.2.2.2.2 | exact Zl z.2.2.2.2.2.2.2.2 | exact Zg z.2.2.2.2.2.2.2.2 | exact z.2.2.2.2.2.2.2.2.1 | exact Zs z.2.2.2.2.2.2.2.2.1 | exact Zl z.2.2.2.2.2.2.2.2.1 | exact Zg z.2.2.2.2.2.2.2.2.1 | exact z.2.2.2.2.2.2.2.2.2.1 | exact Zs z.2.2.2.2.2.2.2.2.2.1 | exact Zl z.2.2.2.2.2.2.2.2.2.1 | exact Zg z.2.2.2.2.2.2.2.2.2.1 | exact z.2.2.2.2.2.2.2.2.2.2.1 | exact Zs z.2.2.2.2.2.2.2.2.2.2.1 | exact Zl z.2.2.2.2.2.2.2.2.2.2.1 | exact Zg z.2.2.2.2.2.2.2.2.2.2.1 | exact z.2.2.2.2.2.2.2.2.2.2.2.1 | exact Zs z.2.2.2.2.2.2.2.2.2.2.2.1 | exact Zl z.2.2.2.2.2.2.2.2.2.2.2.1 | exact Zg z.2.2.2.2.2.2.2.2.2.2.2.1 | exact z.2.2.2.2.2.2.2.2.2.2.2.2.1 | exact Zs z.2.2.2.2.2.2.2.2.2.2.2.2.1 | exact Zl z.2.2.2.2.2.2.2.2.2.2.2.2.1 | exact Zg z.2.2.2.2.2.2.2.2.2.2.2.2.1 | exact z.2.2.2.2.2.2.2.2.2.2.2.2.2.1 | exact Zs z.2.2.2.2.2.2.2.2.2.2.2.2.2.1 | exact Zl z.2.2.2.2.2.2.2.2.2.2.2.2.2.1 | exact Zg z.2.2.2.2.2.2.2.2.2.2.2.2.2.1 | (clear z; (k_extra "mine:pj"))))
  k_with "mine:ne" => (first | (with_reducible assumption) | exact Ne.symm (by with_reducible assumption) | exact ne_lt (by with_reducible assumption) | exact ne_gt (by with_reducible assumption) | exact ne_lt (lt_led (by with_reducible assumption) (by k_mem)) | exact ne_gt (lt_led (by with_reducible assumption) (by k_mem)) | ((try dsimp only); with_reducible (k_extra "mine:pj")) | assumption | exact Nat.ne_of_lt (Nat.lt_succ_self _) | exact Nat.ne_of_gt (Nat.lt_succ_self _) | (walk_say "K_NE OMEGA"; refine neN ?_; (try dsimp only); omega))
  k_with "mine:nes" => (first | (refine And.intro ?_ ?_ <;> (k_extra "mine:nes")) | k_ne)
  k_with "mine:in" => (first | (with_reducible exact List.mem_cons_self) | (with_reducible assumption) | ((with_reducible refine List.mem_cons_of_mem _ ?_); (k_extra "mine:in")) | exact List.mem_cons_self | (refine List.mem_cons_of_mem _ ?_; (k_extra "mine:in")) | (refine List.mem_append_left _ ?_; (k_extra "mine:in")) | (refine List.mem_append_right _ ?_; (k_extra "mine:in")))
  k_with "mine:sub" => (first | (with_reducible exact sub_id) | (with_reducible exact sub_nil) | ((with_reducible refine sub_cons ?haW7 ?hbW7); (case haW7 => (k_extra "mine:in")); (case hbW7 => (k_extra "mine:sub"))) | ((with_reducible refine sub_both ?haW7 ?hbW7); (case haW7 => (k_extra "mine:sub")); (case hbW7 => (k_extra "mine:sub"))) | ((with_reducible refine sub_skip ?_); (k_extra "mine:sub")) | ((with_reducible refine sub_right ?_); (k_extra "mine:sub")) | ((with_reducible refine sub_left ?_); (k_extra "mine:sub")) | (simp only [List.nil_append, List.cons_append]; (k_extra "mine:sub")))
  k_with "mine:keys" => (first | (k_dflt (exact keys_of rfl rfl)) | (walk_say "K_KEYS LONG"; repeat (first | exact True.intro | refine And.intro ⟨_, _, rfl, rfl⟩ ?_)))
  k_with "mine:enter0" => ((refine' enter0 ?k1W7 ?k2W7 ?k3W7 ?k4W7 ?kKW7 ?k8W7 ?k6W7 ?k7W7 ?k9W7 ?kBW7 ?_ ?c2W7 ?c3W7 ?c4W7 ?c5W7; (case kKW7 => assumption); (case k1W7 => k_asm); (case k2W7 => k_asm); (case k3W7 => k_asm); (case k4W7 => k_asm); (case k6W7 => k_is); (case k7W7 => k_is); (case k8W7 => ktr_room); (case k9W7 => exact BindsTo.of_eq rfl); (case c5W7 => decide); (case kBW7 => exact locs rfl); (case c2W7 => exact rfl); (case c3W7 => exact rfl); (case c4W7 => exact rfl); k_whole; intro Lq9 hq9 tkq9 Fq9 Nq9 Bq9 Xq9 Tq9; (try dsimp only); (try k_fold)))
  k_with "mine:ret" => (((all_goals (try dsimp only)); (all_goals (try k_unfold)); (all_goals (try dsimp only))))
  k_with "mine:same" => (first | exact fun _ _ => rfl | exact fun _ _ _ => rfl | exact same_fg | exact same_fgN | (refine same_upY ?_; (k_extra "mine:same")) | (refine same_up (by rfl) ?_; (k_extra "mine:same")) | (refine same_upN (by rfl) ?_; (k_extra "mine:same")) | (intros; (try dsimp only [forget, up]); (repeat' split); all_goals first | rfl | (exfalso; subst_vars; (rename (List.contains _ _ = false) => hz9); (revert hz9); decide) | (exfalso; (rename (List.contains _ _ = false) => hz9); (rename (List.contains _ _ = true) => hz8); rw [hz9] at hz8; exact Bool.noConfusion hz8) | (exfalso; subst_vars; contradiction)))
  trivial
open PySem PySem.W PySem.Calls PySem.Spec PyProof.Rows
theorem law_cut {i n a : Nat} {st : List Stmt} {sc : Scope} (he : lawSeg i n = some (st, sc)) (h : a ≤ n) : lawSeg i a = some (st.take a, sc) ∧ lawSeg (i + a) (n - a) = some (st.drop a, sc) := by
  unfold lawSeg at he ⊢
  cases hq : lawOf with
  | none => rw [hq] at he; cases he
  | some x =>
    rw [hq] at he
    simp only [Option.map_some, Option.some.injEq, Prod.mk.injEq] at he ⊢
    obtain ⟨e1, e2⟩ := he
    subst e1 e2
    refine ⟨⟨?_, rfl⟩, ?_, rfl⟩
    · rw [List.take_take, Nat.min_eq_left h]
    · rw [List.drop_take, List.drop_drop]
theorem idm_firstV {w : World} {A₀ : Around} {s : Shared} {base h₀ : Heap} {outer : List Env} {L : Addr} {m mg mb : Str → Option Value} {p : Program} {loose : List Str} {mean : ExcName → Option Value}
  {dp un : Nat} {gd : Option (List Code)} {cn : Str} {cs : Scope} {a : Addr} {ccd : Value} {cl : List (Str × Addr)} {E : Value → Shared → Prop} {Q : Value → Shared → Prop} {n1 n2 n3 n4 : Addr × Obj} {r : List (Addr × Obj)} (B : Below A₀ base outer h₀) (F : Fr h₀ L s.heap m) (X : (hd.heap_1 w.params).In h₀) (T : Top p loose mean mg mb h₀) (hk : cs.kind = .function) (hd : dp + 31 < recursionLimit) (hu : un + 310 < cLine)
    (N : News h₀ L s.heap (n1 :: n2 :: n3 :: n4 :: (45, tabObj #[]) :: (38, tabObj #[]) :: r)) (r38 : ∀ p ∈ n1 :: n2 :: n3 :: n4 :: r, @Ne Nat p.1 38) (r45 : ∀ p ∈ n1 :: n2 :: n3 :: n4 :: r, @Ne Nat p.1 45) (hC : CodeHd h₀ 42 38) (hC2 : CodeHd h₀ 49 45)
    {x b q : Nat} {tx tb : Tok} {XI BI : Int} (hXI : XI = (x : Int)) (hBI : BI = (b : Int)) (hx : 0 < x ∧ x < 2 ^ 17) (hb : 0 < b ∧ b < 512)
    {k : Nat} (hk1 : 1 ≤ k ∧ k ≤ 17) (hkk : ((Builtin.Int.intBits (x : Int) : Int) + (Builtin.Int.intBits (b : Int) : Nat) - 1).fdiv (Builtin.Int.intBits (b : Int) : Nat) = (k : Int)) (hq : x / b = q) (h0 : x % b = 0)
    (kk : ∀ D c c2 oc oc2 t1 t2 h' tk, Fr h₀ L h' m → News h₀ L h' ((D, tupObj #[.int (q : Int) t1, .int 0 t2]) :: (38, tabObj #[rawInt 73, rawInt 4, .ref c]) :: (c, oc) :: (45, tabObj #[rawInt 88, rawInt 4, .ref c2]) :: (c2, oc2) :: n1 :: n2 :: n3 :: n4 :: r) →
      TabHit 73 "_int2digits.<locals>.inner" #[rawInt 73, rawInt 4, .ref c] [(c, oc)] → TabHit 88 "_digits2int.<locals>.inner" #[rawInt 88, rawInt 4, .ref c2] [(c2, oc2)] →
      (@Ne Nat D 38 ∧ @Ne Nat D 45 ∧ @Ne Nat D c ∧ @Ne Nat D c2 ∧ @Ne Nat c 38 ∧ @Ne Nat c 45 ∧ @Ne Nat c2 38 ∧ @Ne Nat c2 45 ∧ @Ne Nat c c2) → (∀ p ∈ n1 :: n2 :: n3 :: n4 :: r, @Ne Nat p.1 D ∧ @Ne Nat p.1 c ∧ @Ne Nat p.1 c2) → Q (.ref D) { s with heap := h', toks := tk }) :
    wpAny (model Challenge.rw_sn0075_01.row.prog w) (ktrTop dp un gd cn cs L a ccd cl outer) (call (.ref 64) [.int XI tx, .int BI tb]) Q E s :=
  idm_first (rest := n1 :: n2 :: n3 :: n4 :: r) B F X T hk hd hu N (by simp) (by simp) (fun p hp => ⟨by
    exact sub_app (by (k_extra "mine:sub")) hp, r38 p hp, r45 p hp⟩) hC hC2 hXI hBI hx hb hk1 hkk hq h0 kk
theorem unr_endB {h₀ : Heap} {L I : Addr} {it : Obj} {rest : (Str → Option Value) → List (Addr × Obj) → Prop} {s₁ : Shared} {h' : Heap} {tk : Nat} {m' : Str → Option Value} {d a1 a2 a3 a4 b1 b2 b3 : Addr × Obj} {r : List (Addr × Obj)} (F : Fr h₀ L h' m') (N : News h₀ L h' (d :: a1 :: a2 :: a3 :: a4 :: (I, it) :: b1 :: b2 :: b3 :: r))
    (o1 : @Ne Nat a1.1 I) (o2 : @Ne Nat a2.1 I) (o3 : @Ne Nat a3.1 I) (o4 : @Ne Nat a4.1 I) (o5 : @Ne Nat b1.1 I) (o6 : @Ne Nat b2.1 I) (o7 : @Ne Nat b3.1 I) (o8 : ∀ p ∈ r, @LT.lt Nat _ p.1 I) (rr : rest m' (a1 :: a2 :: a3 :: a4 :: b1 :: b2 :: b3 :: r)) : UnrEnd h₀ L s₁ I it rest { s₁ with heap := h', toks := tk } :=
  UnrEnd.intro F N _ (fun p hp => by
    exact sub_app (by (k_extra "mine:sub")) hp) (fun p hp => by
    simp only [List.mem_cons] at hp
    rcases hp with rfl | rfl | rfl | rfl | rfl | rfl | rfl | hp
    · exact o1
    · exact o2
    · exact o3
    · exact o4
    · exact o5
    · exact o6
    · exact o7
    · exact Nat.ne_of_lt (o8 p hp)) rr
theorem news_Bcut {h₀ h : Heap} {L : Addr} {a1 a2 a3 a4 b1 b2 b3 : Addr × Obj} {r : List (Addr × Obj)} (N : News h₀ L h (a1 :: a2 :: a3 :: a4 :: b1 :: b2 :: b3 :: r)) : News h₀ L h (a1 :: a2 :: a3 :: a4 :: b1 :: b3 :: r) := fun p hp => N p (by
  exact sub_app (by (k_extra "mine:sub")) hp)
theorem unr_endB2 {h₀ : Heap} {L I : Addr} {it : Obj} {rest : (Str → Option Value) → List (Addr × Obj) → Prop} {s₁ : Shared} {h' : Heap} {tk : Nat} {m' : Str → Option Value} {d a1 a2 a3 a4 b1 b2 b3 : Addr × Obj} {r : List (Addr × Obj)} (F : Fr h₀ L h' m') (N : News h₀ L h' (d :: (I, it) :: a1 :: a2 :: a3 :: a4 :: b1 :: b2 :: b3 :: r))
    (o1 : @Ne Nat a1.1 I) (o2 : @Ne Nat a2.1 I) (o3 : @Ne Nat a3.1 I) (o4 : @Ne Nat a4.1 I) (o5 : @Ne Nat b1.1 I) (o6 : @Ne Nat b2.1 I) (o7 : @Ne Nat b3.1 I) (o8 : ∀ p ∈ r, @LT.lt Nat _ p.1 I) (rr : rest m' (a1 :: a2 :: a3 :: a4 :: b1 :: b2 :: b3 :: r)) : UnrEnd h₀ L s₁ I it rest { s₁ with heap := h', toks := tk } :=
  unr_endB (d := d) F (fun q hq => N q (by
    exact sub_app (by (k_extra "mine:sub")) hq)) o1 o2 o3 o4 o5 o6 o7 o8 rr
section
variable {w : World} {s : Shared} {h₀ : Heap} {L fa LL Dp : Addr} {m mg mb : Str → Option Value} {p : Program} {loose : List Str} {mean : ExcName → Option Value} {cd : Value} {oz op : Obj}
    {st : List Stmt} {sc : Scope} {Q : Flow → Shared → Prop} {tz tf u1 u2 u3 : Tok} {rst : List (Addr × Obj)}
theorem intsA3 {a b c a' b' c' : Int} {t0 t1 t2 : Tok} (ha : a = a') (hb : b = b') (hc : c = c') : IntsAre [.int a t0, .int b t1, .int c t2] [a', b', c'] := by subst ha hb hc; repeat constructor
theorem int_arg3_3 {prog : Program} {w : World} {A : Around} {E : Value → Shared → Prop} {Q : Value → Shared → Prop} {s : Shared} {f a b : Value} {v v' : Int} {t : Tok} (e : v = v') (h : wpAny (model prog w) A (call f [.int v' t, a, b]) Q E s) : wpAny (model prog w) A (call f [.int v t, a, b]) Q E s := e ▸ h
theorem sub_arg_3 {prog : Program} {w : World} {A : Around} {E : Value → Shared → Prop} {Q : Value → Shared → Prop} {s : Shared} {a b : Expr} {r : Value} {v v' : Int} {t : Tok} (e : v = v') (h : wpAny (model prog w) A (subscriptTail a b r (.int v' t)) Q E s) : wpAny (model prog w) A (subscriptTail a b r (.int v t)) Q E s := e ▸ h
theorem words_Lc3_1 : True := by
  k_with "subscriptTail" => ((k_here; (with_reducible show wpAny _ _ (subscriptTail _ _ (Value.ref _) (Value.int (_ ^ _) _)) _ _ _); k_dflt (first | refine' sub_arg_3 (v' := 1) (by decide) ?_ | refine' sub_arg_3 (v' := 2) (by decide) ?_ | refine' sub_arg_3 (v' := 4) (by decide) ?_ | refine' sub_arg_3 (v' := 8) (by decide) ?_)))
  k_with "call ref" => ((k_here; k_dflt ( (show wpAny _ _ (call (Value.ref 22) _) _ _ _); (refine' int_arg3_3 (v' := 8) (by decide) ?_); (refine' use_specD ?FW7 ?NW7 (spec_pow8 ?BW7 ?F1W7 ?XW7 ?TW7 ?hkW7 ?dW7 ?uW7) ?_); (case FW7 => k_asm); (case NW7 => k_asm); (case BW7 => k_asm); (case F1W7 => k_asm); (case XW7 => k_asm); (case TW7 => k_asm); (case hkW7 => rfl); (case dW7 => ktr_room); (case uW7 => ktr_units); (intro vq9 hq9 dnq9 tkq9 Fq9 Nq9 Eq9 qq9; (obtain ⟨Dp, op, u1, u2, u3, qq9, hDp, hsp, hgp, hop⟩ := qq9); subst qq9; (have hsepq9 := fresh_sep (by assumption) hDp); (have hs1q9 := hsepq9 (45, _) (by k_mem)); (have hs2q9 := hsepq9 (38, _) (by k_mem)); (clear hsepq9 Eq9); (replace Nq9 := news_cons Nq9 hgp (fresh_of (by assumption) hDp).1 (fresh_of (by assumption) hDp).2); (clear hgp hDp)); (try k_sweep))))
  trivial
set_option maxHeartbeats 4000000 in
theorem segBa3 (he : lawSeg 3 3 = some (st, sc))
    (B : Below callerA h₀ [] h₀) (X : (hd.heap_1 w.params).In h₀) (T : Top p loose mean mg mb h₀) (c1 : oz.data = .cell (some (.int 3 tz)))
    (F : Fr h₀ L s.heap m) (N : News h₀ L s.heap ((L + 1, oz) :: (45, tabObj #[]) :: (38, tabObj #[]) :: rst))
    (kk : ∀ (LL Dp : Addr) (op : Obj) (u1 u2 u3 tf : Tok) (h' : Heap) (dn : Drawn) (tk : Nat) (m' : Str → Option Value), op.IsDictOf (PySem.intKind Challenge.rw_sn0075_01.row.prog w) [(1, .int 2 u1), (2, .int 4 u2), (4, .int 16 u3)] → (Dp == sysModules) = false → m' (Str.ofString "powers") = some (.ref Dp) → m' (Str.ofString "full") = some (.int 255 tf) → m' (Str.ofString "letters") = some (.ref LL) →
      (@LT.lt Nat _ Dp LL ∧ @LT.lt Nat _ (L + 1) LL ∧ @LT.lt Nat _ 45 LL ∧ @LT.lt Nat _ 38 LL ∧ ∀ q ∈ rst, @LT.lt Nat _ q.1 LL) → (@Ne Nat 45 Dp ∧ @Ne Nat 38 Dp) → Fr h₀ L h' m' →
      News h₀ L h' ((LL, W.listOf #[] 0) :: (Dp, op) :: (L + 1, oz) :: (45, tabObj #[]) :: (38, tabObj #[]) :: rst) → Q .next { s with heap := h', drawn := dn, toks := tk }) :
    wpAny (model Challenge.rw_sn0075_01.row.prog w) (callerA.deeper (envOfC (Str.ofString "law") sc L fa cd)) (execs st (envOfC (Str.ofString "law") sc L fa cd)) Q (fun _ _ => False) s := by
  revert X; k_fill; intro X
  have he2 : lawSeg 3 3 = some ([_, _, _], _) := rfl
  rw [he] at he2
  cases he2
  clear he
  repeat (first | (dsimp only; walk1) | walk1)
  (rename Fr _ _ _ _ => kF); (rename News _ _ _ _ => kN); (rename (@LT.lt Nat _ _ _ ∧ @LT.lt Nat _ _ _ ∧ _) => kL); (rename Obj.IsDictOf _ _ _ => kD); (rename ((_ == sysModules) = false) => kM); (rename (@Ne Nat 45 _) => k1); (rename (@Ne Nat 38 _) => k2)
  rw [show (16 : Int) ^ Int.toNat 2 - 1 = 255 from by decide +kernel] at kF
  exact kk _ _ _ _ _ _ _ _ _ _ _ kD kM (by exact rfl) (by exact rfl) (by exact rfl) ⟨kL.1, kL.2.1, kL.2.2.1, kL.2.2.2.1, ktn_ltOf kL.2.2.2.2⟩ ⟨k1, k2⟩ kF kN
theorem words_Lc3_2 : True := by
  k_with "call ref" => ((k_here; k_dflt ( (show wpAny _ _ (call (Value.ref 64) _) _ _ _); (refine' idm_firstV (x := 255) (b := 3) (q := 85) (k := 4) ?BW7 ?FW7 ?XW7 ?TW7 ?hkW7 ?dW7 ?uW7 ?NW7 ?r38W7 ?r45W7 ?hCW7 ?hC2W7 ?e1W7 ?e2W7 ?hxW7 ?hbW7 ?k1W7 ?k2W7 ?k3W7 ?k4W7 ?_); (case BW7 => k_asm); (case FW7 => k_asm); (case XW7 => k_asm); (case TW7 => k_asm); (case NW7 => k_asm); (case hkW7 => rfl); (case dW7 => ktr_room); (case uW7 => ktr_units); (case r38W7 => k_all); (case r45W7 => k_all); (case hCW7 => assumption); (case hC2W7 => assumption); (case e1W7 => decide +kernel); (case e2W7 => decide +kernel); (case hxW7 => decide); (case hbW7 => decide); (case k1W7 => decide); (case k2W7 => decide +kernel); (case k3W7 => decide +kernel); (case k4W7 => decide +kernel); (intro Dq9 cq9 c2q9 ocq9 oc2q9 t1q9 t2q9 hq9 tkq9 Fq9 Nq9 H1q9 H2q9 hsq9 hpq9; (have hp1q9 := hpq9 (_, W.listOf _ _) (by k_mem)); (have hp2q9 := hpq9 (_, itR _ _) (by k_mem)); (try dsimp only at hp1q9 hp2q9)); (try k_sweep))))
  k_with "call ref" => ((k_here; k_dflt ( (show wpAny _ _ (call (Value.ref 64) _) _ _ _); (rename TabHit 73 _ _ _ => hAq9); (rename TabHit 88 _ _ _ => hBq9); (first | refine' idm_next (x := 255) (b := 5) (q := 51) (k := 3) ?BW7 ?FW7 ?XW7 ?TW7 ?hkW7 ?dW7 ?uW7 ?NW7 hAq9 hBq9 ?h38W7 ?h45W7 ?hcW7 ?hc2W7 ?hCW7 ?hC2W7 ?hneW7 (by decide +kernel) (by decide +kernel) ?hxW7 ?hbW7 ?k1W7 ?k2W7 ?k3W7 ?k4W7 ?_ | refine' idm_next (x := 255) (b := 17) (q := 15) (k := 2) ?BW7 ?FW7 ?XW7 ?TW7 ?hkW7 ?dW7 ?uW7 ?NW7 hAq9 hBq9 ?h38W7 ?h45W7 ?hcW7 ?hc2W7 ?hCW7 ?hC2W7 ?hneW7 (by decide +kernel) (by decide +kernel) ?hxW7 ?hbW7 ?k1W7 ?k2W7 ?k3W7 ?k4W7 ?_); (case BW7 => k_asm); (case FW7 => k_asm); (case XW7 => k_asm); (case TW7 => k_asm); (case NW7 => k_asm); (case hkW7 => rfl); (case dW7 => ktr_room); (case uW7 => ktr_units); (case h38W7 => k_mem); (case h45W7 => k_mem); (case hcW7 => k_mem); (case hc2W7 => k_mem); (case hCW7 => assumption); (case hC2W7 => assumption); (case hneW7 => exact ⟨by k_ne, by k_ne, by k_ne⟩); (case hxW7 => decide); (case hbW7 => decide); (case k1W7 => decide); (case k2W7 => decide +kernel); (case k3W7 => decide +kernel); (case k4W7 => decide +kernel); (intro Dq9 t1q9 t2q9 hq9 tkq9 Fq9 Nq9 hpq9; (have hp1q9 := hpq9 (_, W.listOf _ _) (by k_mem)); (have hp2q9 := hpq9 (_, itR _ _) (by k_mem)); (clear hpq9); (try dsimp only at hp1q9 hp2q9)); (try k_sweep))))
  k_with "UnrEnd" => ((k_here; k_dflt ( (rename Fr _ _ _ _ => kF9); (rename News _ _ _ _ => kN9); (rename (@LT.lt Nat _ LL _ ∧ _) => kA9); (first | refine' unr_endB kF9 kN9 ?o1W7 ?o2W7 ?o3W7 ?o4W7 ?o5W7 ?o6W7 ?o7W7 ?o8W7 ?_ | refine' unr_endB2 kF9 kN9 ?o1W7 ?o2W7 ?o3W7 ?o4W7 ?o5W7 ?o6W7 ?o7W7 ?o8W7 ?_); (case o1W7 => k_ne); (case o2W7 => k_ne); (case o3W7 => k_ne); (case o4W7 => k_ne); (case o5W7 => k_ne); (case o6W7 => k_ne); (case o7W7 => k_ne); (case o8W7 => exact ktn_ltOf kA9.2.2.2.2.2))))
  trivial
set_option maxHeartbeats 4000000 in
theorem segBb3 (he : lawSeg 6 1 = some (st, sc))
    (B : Below callerA h₀ [] h₀) (X : (hd.heap_1 w.params).In h₀) (T : Top p loose mean mg mb h₀) (hC : CodeHd h₀ 42 38) (hC2 : CodeHd h₀ 49 45) (c1 : oz.data = .cell (some (.int 3 tz)))
    (kD : op.IsDictOf (PySem.intKind Challenge.rw_sn0075_01.row.prog w) [(1, .int 2 u1), (2, .int 4 u2), (4, .int 16 u3)]) (kM : (Dp == sysModules) = false) (hm1 : m (Str.ofString "powers") = some (.ref Dp)) (hm2 : m (Str.ofString "full") = some (.int 255 tf)) (hm3 : m (Str.ofString "letters") = some (.ref LL))
    (l1 : @LT.lt Nat _ Dp LL) (l2 : @LT.lt Nat _ (L + 1) LL) (l3 : @LT.lt Nat _ 45 LL) (l4 : @LT.lt Nat _ 38 LL) (hO : OwnOff rst [38, 45, LL]) (d1 : @Ne Nat 45 Dp) (d2 : @Ne Nat 38 Dp) (d3 : @LT.lt Nat _ 45 L) (d4 : @LT.lt Nat _ 38 L)
    (F : Fr h₀ L s.heap m) (N : News h₀ L s.heap ((LL, W.listOf #[] 0) :: (Dp, op) :: (L + 1, oz) :: (45, tabObj #[]) :: (38, tabObj #[]) :: rst))
    (kk : ∀ (c c2 : Addr) (oc oc2 : Obj) (vl : List Value) (n : Nat) (h' : Heap) (tk : Nat) (m' : Str → Option Value), IntsAre vl [170, 204, 240] → m' (Str.ofString "full") = some (.int 255 tf) → m' (Str.ofString "letters") = some (.ref LL) →
      TabHit 73 "_int2digits.<locals>.inner" #[rawInt 73, rawInt 4, .ref c] [(c, oc)] → TabHit 88 "_digits2int.<locals>.inner" #[rawInt 88, rawInt 4, .ref c2] [(c2, oc2)] → (@Ne Nat c 38 ∧ @Ne Nat c 45 ∧ @Ne Nat c2 38 ∧ @Ne Nat c2 45 ∧ @Ne Nat c c2) →
      (∀ q ∈ (LL, W.listOf #[] 0) :: (Dp, op) :: (L + 1, oz) :: rst, @Ne Nat q.1 c ∧ @Ne Nat q.1 c2) → Fr h₀ L h' m' →
      News h₀ L h' ((38, tabObj #[rawInt 73, rawInt 4, .ref c]) :: (c, oc) :: (45, tabObj #[rawInt 88, rawInt 4, .ref c2]) :: (c2, oc2) :: (LL, W.listOf vl.toArray n) :: (L + 1, oz) :: rst) → Q .next { s with heap := h', toks := tk }) :
    wpAny (model Challenge.rw_sn0075_01.row.prog w) (callerA.deeper (envOfC (Str.ofString "law") sc L fa cd)) (execs st (envOfC (Str.ofString "law") sc L fa cd)) Q (fun _ _ => False) s := by
  revert X; k_fill; intro X
  have he2 : lawSeg 6 1 = some ([_], _) := rfl
  rw [he] at he2
  cases he2
  clear he
  rw [known hm1, known hm2, known hm3] at F
  repeat (first | (dsimp only; walk1) | walk1)
  (rename Fr _ _ _ _ => kF); (rename News _ _ _ _ => kN); (rename TabHit 73 _ _ _ => kA); (rename TabHit 88 _ _ _ => kB)
  (rename (@Ne Nat _ 38 ∧ @Ne Nat _ 45 ∧ @Ne Nat _ _ ∧ @Ne Nat _ _ ∧ _) => kS); (rename (∀ p, p ∈ _ → @Ne Nat _ _ ∧ @Ne Nat _ _ ∧ @Ne Nat _ _) => kP)
  refine' kk _ _ _ _ [_, _, _] _ _ _ _ ?hI ?hf ?hl kA kB ⟨kS.2.2.2.2.1, kS.2.2.2.2.2.1, kS.2.2.2.2.2.2.1, kS.2.2.2.2.2.2.2.1, kS.2.2.2.2.2.2.2.2⟩ (fun q hq => (kP q (.tail _ hq)).2) kF (news_Bcut kN)
  case hI => exact intsA3 (by decide +kernel) (by decide +kernel) (by decide +kernel)
  case hf => exact rfl
  case hl => exact rfl
end
section
variable {w : World} {s : Shared} {h₀ : Heap} {L fa l TL T0 T1 T2 T3 : Addr} {m mg mb : Str → Option Value} {p : Program} {loose : List Str} {mean : ExcName → Option Value} {cd : Value} {o3 o4 o5 oz ot : Obj}
    {st : List Stmt} {sc : Scope} {Q : Flow → Shared → Prop} {q0 q1 q2 q3 : Nat × Nat × Nat} {a0 a1 a2 a3 b0 b1 b2 b3 d0 d1 d2 d3 tz : Tok}
theorem segB3 (he : lawSeg 3 4 = some (st, sc))
    (B : Below callerA h₀ [] h₀) (X : (hd.heap_1 w.params).In h₀) (T : Top p loose mean mg mb h₀) (hC : CodeHd h₀ 42 38) (hC2 : CodeHd h₀ 49 45)
    (l0 : @LT.lt Nat _ 45 L ∧ @LT.lt Nat _ 38 L) (c1 : oz.data = .cell (some (.int 3 tz))) (lT : @LT.lt Nat _ (L + 1 + 1 + 1 + 1 + 1) T0 ∧ @LT.lt Nat _ (L + 1 + 1 + 1 + 1 + 1) T1 ∧ @LT.lt Nat _ (L + 1 + 1 + 1 + 1 + 1) T2 ∧ @LT.lt Nat _ (L + 1 + 1 + 1 + 1 + 1) T3) (nT : @Ne Nat 45 TL ∧ @Ne Nat 38 TL)
    (F : Fr h₀ L s.heap m) (N : News h₀ L s.heap [(TL, LCg.lst [.ref T0, .ref T1, .ref T2, .ref T3]), (T3, tmO q3 a3 b3 d3), (T2, tmO q2 a2 b2 d2), (T1, tmO q1 a1 b1 d1), (T0, tmO q0 a0 b0 d0), (L + 1 + 1 + 1 + 1 + 1, o5), (L + 1 + 1 + 1 + 1, o4), (L + 1 + 1 + 1, o3), (L + 1 + 1, ot), (L + 1, oz), (45, tabObj #[]), (38, tabObj #[])])
    (kk : ∀ (LL c c2 : Addr) (oc oc2 : Obj) (vl : List Value) (n : Nat) (tf : Tok) (h' : Heap) (dn : Drawn) (tk : Nat) (m' : Str → Option Value), IntsAre vl [170, 204, 240] → m' (Str.ofString "full") = some (.int 255 tf) → m' (Str.ofString "letters") = some (.ref LL) →
      TabHit 73 "_int2digits.<locals>.inner" #[rawInt 73, rawInt 4, .ref c] [(c, oc)] → TabHit 88 "_digits2int.<locals>.inner" #[rawInt 88, rawInt 4, .ref c2] [(c2, oc2)] → @LT.lt Nat _ (L + 1 + 1 + 1 + 1 + 1) LL → (@Ne Nat c 38 ∧ @Ne Nat c 45 ∧ @Ne Nat c2 38 ∧ @Ne Nat c2 45 ∧ @Ne Nat c c2) →
      (∀ x ∈ ([LL, TL, T3, T2, T1, T0, L + 1 + 1 + 1 + 1 + 1, L + 1 + 1 + 1 + 1, L + 1 + 1 + 1, L + 1 + 1, L + 1] : List Nat), @Ne Nat x c ∧ @Ne Nat x c2) → Fr h₀ L h' m' →
      News h₀ L h' [(38, tabObj #[rawInt 73, rawInt 4, .ref c]), (c, oc), (45, tabObj #[rawInt 88, rawInt 4, .ref c2]), (c2, oc2), (LL, W.listOf vl.toArray n), (TL, LCg.lst [.ref T0, .ref T1, .ref T2, .ref T3]), (T3, tmO q3 a3 b3 d3), (T2, tmO q2 a2 b2 d2), (T1, tmO q1 a1 b1 d1), (T0, tmO q0 a0 b0 d0), (L + 1 + 1 + 1 + 1 + 1, o5), (L + 1 + 1 + 1 + 1, o4), (L + 1 + 1 + 1, o3), (L + 1 + 1, ot), (L + 1, oz)] → Q .next { s with heap := h', drawn := dn, toks := tk }) :
    wpAny (model Challenge.rw_sn0075_01.row.prog w) (callerA.deeper (envOfC (Str.ofString "law") sc L fa cd)) (execs st (envOfC (Str.ofString "law") sc L fa cd)) Q (fun _ _ => False) s := by
  obtain ⟨he1, he2⟩ := law_cut he (a := 3) (by decide)
  have h38 : ∀ q ∈ ([(TL, LCg.lst [.ref T0, .ref T1, .ref T2, .ref T3]), (T3, tmO q3 a3 b3 d3), (T2, tmO q2 a2 b2 d2), (T1, tmO q1 a1 b1 d1), (T0, tmO q0 a0 b0 d0), (L + 1 + 1 + 1 + 1 + 1, o5), (L + 1 + 1 + 1 + 1, o4), (L + 1 + 1 + 1, o3), (L + 1 + 1, ot)] : List (Addr × Obj)), @Ne Nat q.1 38 ∧ @Ne Nat q.1 45 := by
    intro q hq
    simp only [List.mem_cons, List.not_mem_nil, or_false] at hq
    rcases hq with rfl | rfl | rfl | rfl | rfl | rfl | rfl | rfl | rfl
    · exact ⟨nT.2.symm, nT.1.symm⟩
    all_goals exact ⟨by show @Ne Nat _ _; dsimp only; clear N F kk; omega, by show @Ne Nat _ _; dsimp only; clear N F kk; omega⟩
  rw [show st = st.take 3 ++ st.drop 3 from (List.take_append_drop 3 st).symm]
  refine execs_app (segBa3 (rst := [(TL, LCg.lst [.ref T0, .ref T1, .ref T2, .ref T3]), (T3, tmO q3 a3 b3 d3), (T2, tmO q2 a2 b2 d2), (T1, tmO q1 a1 b1 d1), (T0, tmO q0 a0 b0 d0), (L + 1 + 1 + 1 + 1 + 1, o5), (L + 1 + 1 + 1 + 1, o4), (L + 1 + 1 + 1, o3), (L + 1 + 1, ot)]) he1 B X T c1 F (fun q hq => N q (by
    exact sub_app (by (k_extra "mine:sub")) hq)) fun LL Dp op u1 u2 u3 tf h1 dn1 tk1 m1 kD kM e1 e2 e3 kL kN' F1 N1 => ?_)
  dsimp only
  have hL5 := kL.2.2.2.2 (L + 1 + 1 + 1 + 1 + 1, o5) (by simp)
  refine segBb3 he2 B X T hC hC2 c1 kD kM e1 e2 e3 kL.1 kL.2.1 kL.2.2.1 kL.2.2.2.1 (fun q hq b hb => ?_) kN'.1 kN'.2 l0.1 l0.2 F1 N1 fun c c2 oc oc2 vl n h2 tk2 m2 hI g1 g2 kA kB kS kP F2 N2 => ?_
  · simp only [List.mem_cons, List.not_mem_nil, or_false] at hb
    rcases hb with rfl | rfl | rfl
    · exact (h38 q hq).1
    · exact (h38 q hq).2
    · exact Nat.ne_of_lt (kL.2.2.2.2 q hq)
  · refine kk LL c c2 oc oc2 vl n tf h2 dn1 tk2 m2 hI g1 g2 kA kB hL5 kS (fun x hx => ?_) F2 (fun q hq => N2 q (by
      exact sub_app (by (k_extra "mine:sub")) hq))
    simp only [List.mem_cons, List.not_mem_nil, or_false] at hx
    rcases hx with rfl | rfl | rfl | rfl | rfl | rfl | rfl | rfl | rfl | rfl | rfl
    · exact kP (x, W.listOf #[] 0) (by simp)
    · exact kP (x, LCg.lst [.ref T0, .ref T1, .ref T2, .ref T3]) (by simp)
    · exact kP (x, tmO q3 a3 b3 d3) (by simp)
    · exact kP (x, tmO q2 a2 b2 d2) (by simp)
    · exact kP (x, tmO q1 a1 b1 d1) (by simp)
    · exact kP (x, tmO q0 a0 b0 d0) (by simp)
    · exact kP (L + 1 + 1 + 1 + 1 + 1, o5) (by simp)
    · exact kP (L + 1 + 1 + 1 + 1, o4) (by simp)
    · exact kP (L + 1 + 1 + 1, o3) (by simp)
    · exact kP (L + 1 + 1, ot) (by simp)
    · exact kP (L + 1, oz) (by simp)
end
end PartLc3
section PartLc4
theorem base_Lc4 : True := by
  w_top off
  k_with_none
  k_with "mine:step" => ((first | (k_unfold; (try dsimp only)) | (k_end; wrow_close) | walk1 | (dsimp only; walk1) | (leave1; walk_say "STEP leave1"; try dsimp only) | fail "no step"))
  k_with "storeName" => ((k_here; k_dflt (first | (refine' storeI ?FW7 ?NW7 ?_ ?aW7 ?bW7; (case FW7 => k_asm); (case NW7 => k_asm); (case aW7 => rfl); (case bW7 => rfl); k_whole; intro hq9 tq9 tkq9 Fq9 Nq9; (try k_sweep)) | (refine' storeU ?FW7 ?NW7 ?_ ?aW7 ?bW7; (case FW7 => k_asm); (case NW7 => k_asm); (case aW7 => rfl); (case bW7 => rfl); k_whole; intro hq9 tkq9 Fq9 Nq9; (try k_sweep)))))
  k_with "mine:pj" => (((rename (_ ∧ _) => z); first | exact z.1 | exact Zs z.1 | exact Zl z.1 | exact Zg z.1 | exact z.2 | exact Zs z.2 | exact Zl z.2 | exact Zg z.2 | exact z.2.1 | exact Zs z.2.1 | exact Zl z.2.1 | exact Zg z.2.1 | exact z.2.2 | exact Zs z.2.2 | exact Zl z.2.2 | exact Zg z.2.2 | exact z.2.2.1 | exact Zs z.2.2.1 | exact Zl z.2.2.1 | exact Zg z.2.2.1 | exact z.2.2.2 | exact Zs z.2.2.2 | exact Zl z.2.2.2 | exact Zg z.2.2.2 | exact z.2.2.2.1 | exact Zs z.2.2.2.1 | exact Zl z.2.2.2.1 | exact Zg z.2.2.2.1 | exact z.2.2.2.2 | exact Zs z.2.2.2.2 | exact Zl z.2.2.2.2 | exact Zg z.2.2.2.2 | exact z.2.2.2.2.1 | exact Zs z.2.2.2.2.1 | exact Zl z.2.2.2.2.1 | exact Zg z.2.2.2.2.1 | exact z.2.2.2.2.2 | exact Zs z.2.2.2.2.2 | exact Zl z.2.2.2.2.2 | exact Zg z.2.2.2.2.2 | exact z.2.2.2.2.2.1 | exact Zs z.2.2.2.2.2.1 | exact Zl z.2.2.2.2.2.1 | exact Zg z.2.2.2.2.2.1 | exact z.2.2.2.2.2.2 | exact Zs z.2.2.2.2.2.2 | exact Zl z.2.2.2.2.2.2 | exact Zg z.2.2.2.2.2.2 | exact z.2.2.2.2.2.2.1 | exact Zs z.2.2.2.2.2.2.1 | exact Zl z.2.2.2.2.2.2.1 | exact Zg z.2.2.2.2.2.2.1 | exact z.2.2.2.2.2.2.2 | exact Zs z.2.2.2.2.2.2.2 | exact Zl z.2.2.2.2.2.2.2 | exact Zg z.2.2.2.2.2.2.2 | exact z.2.2.2.2.2.2.2.1 | exact Zs z.2.2.2.2.2.2.2.1 | exact Zl z.2.2.2.2.2.2.2.1 | exact Zg z.2.2.2.2.2.2.2.1 | exact z.2.2.2.2.2.2.2.2 | exact Zs z.2.2.2.2.2.2.2.2 | exact Zl z.2.2.2.2.2.2.2.2 | exact Zg z.2.2.2.2.2.2.2.2 | exact z.2.2.2.2.2.2.2.2.1 | exact Zs z.2.2.2.2.2.2.2.2.1 | exact Zl z.2.2.2.2.2.2.2.2.1 | exact Zg z.2.2.2.2.2.2.2.2.1 | exact z.2.2.2.2.2.2.2.2.2.1 | exact Zs z.2.2.2.2.2.2.2.2.2.1 | exact Zl z.2.2.2.2.2.2.2.2.2.1 | exact Zg z.2.2.2.2.2.2.2.2.2.1 | exact z.2.2.2.2.2.2.2.2.2.2.1 | exact Zs z.2.2.2.2.2.2.2.2.2.2.1 | exact Zl z.2.2.2.2.2.2.2.2.2.2.1 | exact Zg z.2.2.2.2.2.2.2.2.2.2.1 | exact z.2.2.2.2.2.2.2.2.2.2.2.1 | exact Zs z.2.2.2.2.2.2.2.2.2.2.2.1 | exact Zl z.2.2.2.2.2.2.2.2.2.2.2.1 | exact Zg z.2.2.2.2.2.2.2.2.2.2.2.1 | exact z.2.2.2.2.2.2.2.2.2.2.2.2.1 | exact Zs z.2.2.2.2.2.2.2.2.2.2.2.2.1 | exact Zl z.2.2.2.2.2.2.2.2.2.2.2.2.1 | exact Zg z.2.2.2.2.2.2.2.2.2.2.2.2.1 | exact z.2.2.2.2.2.2.2.2.2.2.2.2.2.1 | exact Zs z.2.2.2.2.2.2.2.2.2.2.2.2.2.1 | exact Zl z.2.2.2.2.2.2.2.2.2.2.2.2.2.1 | exact Zg z.2.2.2.2.2.2.2.2.2.2.2.2.2.1 | (clear z; (k_extra "mine:pj"))))
  k_with "mine:ne" => (first | (with_reducible assumption) | exact Ne.symm (by with_reducible assumption) | exact ne_lt (by with_reducible assumption) | exact ne_gt (by with_reducible assumption) | exact ne_lt (lt_led (by with_reducible assumption) (by k_mem)) | exact ne_gt (lt_led (by with_reducible assumption) (by k_mem)) | ((try dsimp only); with_reducible (k_extra "mine:pj")) | assumption | exact Nat.ne_of_lt (Nat.lt_succ_self _) | exact Nat.ne_of_gt (Nat.lt_succ_self _) | (walk_say "K_NE OMEGA"; refine neN ?_; (try dsimp only); omega))
  k_with "mine:nes" => (first | (refine And.intro ?_ ?_ <;> (k_extra "mine:nes")) | k_ne)
  k_with "mine:in" => (first | (with_reducible exact List.mem_cons_self) | (with_reducible assumption) | ((with_reducible refine List.mem_cons_of_mem _ ?_); (k_extra "mine:in")) | exact List.mem_cons_self | (refine List.mem_cons_of_mem _ ?_; (k_extra "mine:in")) | (refine List.mem_append_left _ ?_; (k_extra "mine:in")) | (refine List.mem_append_right _ ?_; (k_extra "mine:in")))
  k_with "mine:sub" => (first | (with_reducible exact sub_id) | (with_reducible exact sub_nil) | ((with_reducible refine sub_cons ?haW7 ?hbW7); (case haW7 => (k_extra "mine:in")); (case hbW7 => (k_extra "mine:sub"))) | ((with_reducible refine sub_both ?haW7 ?hbW7); (case haW7 => (k_extra "mine:sub")); (case hbW7 => (k_extra "mine:sub"))) | ((with_reducible refine sub_skip ?_); (k_extra "mine:sub")) | ((with_reducible refine sub_right ?_); (k_extra "mine:sub")) | ((with_reducible refine sub_left ?_); (k_extra "mine:sub")) | (simp only [List.nil_append, List.cons_append]; (k_extra "mine:sub")))
  k_with "mine:keys" => (first | (k_dflt (exact keys_of rfl rfl)) | (walk_say "K_KEYS LONG"; repeat (first | exact True.intro | refine And.intro ⟨_, _, rfl, rfl⟩ ?_)))
  k_with "mine:enter0" => ((refine' enter0 ?k1W7 ?k2W7 ?k3W7 ?k4W7 ?kKW7 ?k8W7 ?k6W7 ?k7W7 ?k9W7 ?kBW7 ?_ ?c2W7 ?c3W7 ?c4W7 ?c5W7; (case kKW7 => assumption); (case k1W7 => k_asm); (case k2W7 => k_asm); (case k3W7 => k_asm); (case k4W7 => k_asm); (case k6W7 => k_is); (case k7W7 => k_is); (case k8W7 => ktr_room); (case k9W7 => exact BindsTo.of_eq rfl); (case c5W7 => decide); (case kBW7 => exact locs rfl); (case c2W7 => exact rfl); (case c3W7 => exact rfl); (case c4W7 => exact rfl); k_whole; intro Lq9 hq9 tkq9 Fq9 Nq9 Bq9 Xq9 Tq9; (try dsimp only); (try k_fold)))
  k_with "mine:ret" => (((all_goals (try dsimp only)); (all_goals (try k_unfold)); (all_goals (try dsimp only))))
  k_with "mine:same" => (first | exact fun _ _ => rfl | exact fun _ _ _ => rfl | exact same_fg | exact same_fgN | (refine same_upY ?_; (k_extra "mine:same")) | (refine same_up (by rfl) ?_; (k_extra "mine:same")) | (refine same_upN (by rfl) ?_; (k_extra "mine:same")) | (intros; (try dsimp only [forget, up]); (repeat' split); all_goals first | rfl | (exfalso; subst_vars; (rename (List.contains _ _ = false) => hz9); (revert hz9); decide) | (exfalso; (rename (List.contains _ _ = false) => hz9); (rename (List.contains _ _ = true) => hz8); rw [hz9] at hz8; exact Bool.noConfusion hz8) | (exfalso; subst_vars; contradiction)))
  trivial
open PySem PySem.W PySem.Calls PySem.Spec PyProof.Rows
section
variable {w : World} {s : Shared} {h₀ : Heap} {L fa LL Dp : Addr} {m mg mb : Str → Option Value} {p : Program} {loose : List Str} {mean : ExcName → Option Value} {cd : Value} {oz op : Obj}
    {st : List Stmt} {sc : Scope} {Q : Flow → Shared → Prop} {tz tf u1 u2 u3 u4 : Tok} {rst : List (Addr × Obj)}
theorem intsA4 {a b c d a' b' c' d' : Int} {t0 t1 t2 t3 : Tok} (ha : a = a') (hb : b = b') (hc : c = c') (hd : d = d') : IntsAre [.int a t0, .int b t1, .int c t2, .int d t3] [a', b', c', d'] := by subst ha hb hc hd; repeat constructor
theorem int_arg3_4 {prog : Program} {w : World} {A : Around} {E : Value → Shared → Prop} {Q : Value → Shared → Prop} {s : Shared} {f a b : Value} {v v' : Int} {t : Tok} (e : v = v') (h : wpAny (model prog w) A (call f [.int v' t, a, b]) Q E s) : wpAny (model prog w) A (call f [.int v t, a, b]) Q E s := e ▸ h
theorem sub_arg_4 {prog : Program} {w : World} {A : Around} {E : Value → Shared → Prop} {Q : Value → Shared → Prop} {s : Shared} {a b : Expr} {r : Value} {v v' : Int} {t : Tok} (e : v = v') (h : wpAny (model prog w) A (subscriptTail a b r (.int v' t)) Q E s) : wpAny (model prog w) A (subscriptTail a b r (.int v t)) Q E s := e ▸ h
theorem words_Lc4_1 : True := by
  k_with "subscriptTail" => ((k_here; (with_reducible show wpAny _ _ (subscriptTail _ _ (Value.ref _) (Value.int (_ ^ _) _)) _ _ _); k_dflt (first | refine' sub_arg_4 (v' := 1) (by decide) ?_ | refine' sub_arg_4 (v' := 2) (by decide) ?_ | refine' sub_arg_4 (v' := 4) (by decide) ?_ | refine' sub_arg_4 (v' := 8) (by decide) ?_)))
  k_with "call ref" => ((k_here; k_dflt ( (show wpAny _ _ (call (Value.ref 22) _) _ _ _); (refine' int_arg3_4 (v' := 16) (by decide) ?_); (refine' use_specD ?FW7 ?NW7 (spec_pow16 ?BW7 ?F1W7 ?XW7 ?TW7 ?hkW7 ?dW7 ?uW7) ?_); (case FW7 => k_asm); (case NW7 => k_asm); (case BW7 => k_asm); (case F1W7 => k_asm); (case XW7 => k_asm); (case TW7 => k_asm); (case hkW7 => rfl); (case dW7 => ktr_room); (case uW7 => ktr_units); (intro vq9 hq9 dnq9 tkq9 Fq9 Nq9 Eq9 qq9; (obtain ⟨Dp, op, u1, u2, u3, u4, qq9, hDp, hsp, hgp, hop⟩ := qq9); subst qq9; (have hsepq9 := fresh_sep (by assumption) hDp); (have hs1q9 := hsepq9 (45, _) (by k_mem)); (have hs2q9 := hsepq9 (38, _) (by k_mem)); (clear hsepq9 Eq9); (replace Nq9 := news_cons Nq9 hgp (fresh_of (by assumption) hDp).1 (fresh_of (by assumption) hDp).2); (clear hgp hDp)); (try k_sweep))))
  trivial
set_option maxHeartbeats 4000000 in
theorem segBa4 (he : lawSeg 3 3 = some (st, sc))
    (B : Below callerA h₀ [] h₀) (X : (hd.heap_1 w.params).In h₀) (T : Top p loose mean mg mb h₀) (c1 : oz.data = .cell (some (.int 4 tz)))
    (F : Fr h₀ L s.heap m) (N : News h₀ L s.heap ((L + 1, oz) :: (45, tabObj #[]) :: (38, tabObj #[]) :: rst))
    (kk : ∀ (LL Dp : Addr) (op : Obj) (u1 u2 u3 u4 tf : Tok) (h' : Heap) (dn : Drawn) (tk : Nat) (m' : Str → Option Value), op.IsDictOf (PySem.intKind Challenge.rw_sn0075_01.row.prog w) [(1, .int 2 u1), (2, .int 4 u2), (4, .int 16 u3), (8, .int 256 u4)] → (Dp == sysModules) = false → m' (Str.ofString "powers") = some (.ref Dp) → m' (Str.ofString "full") = some (.int 65535 tf) → m' (Str.ofString "letters") = some (.ref LL) →
      (@LT.lt Nat _ Dp LL ∧ @LT.lt Nat _ (L + 1) LL ∧ @LT.lt Nat _ 45 LL ∧ @LT.lt Nat _ 38 LL ∧ ∀ q ∈ rst, @LT.lt Nat _ q.1 LL) → (@Ne Nat 45 Dp ∧ @Ne Nat 38 Dp) → Fr h₀ L h' m' →
      News h₀ L h' ((LL, W.listOf #[] 0) :: (Dp, op) :: (L + 1, oz) :: (45, tabObj #[]) :: (38, tabObj #[]) :: rst) → Q .next { s with heap := h', drawn := dn, toks := tk }) :
    wpAny (model Challenge.rw_sn0075_01.row.prog w) (callerA.deeper (envOfC (Str.ofString "law") sc L fa cd)) (execs st (envOfC (Str.ofString "law") sc L fa cd)) Q (fun _ _ => False) s := by
  revert X; k_fill; intro X
  have he2 : lawSeg 3 3 = some ([_, _, _], _) := rfl
  rw [he] at he2
  cases he2
  clear he
  repeat (first | (dsimp only; walk1) | walk1)
  (rename Fr _ _ _ _ => kF); (rename News _ _ _ _ => kN); (rename (@LT.lt Nat _ _ _ ∧ @LT.lt Nat _ _ _ ∧ _) => kL); (rename Obj.IsDictOf _ _ _ => kD); (rename ((_ == sysModules) = false) => kM); (rename (@Ne Nat 45 _) => k1); (rename (@Ne Nat 38 _) => k2)
  rw [show (256 : Int) ^ Int.toNat 2 - 1 = 65535 from by decide +kernel] at kF
  exact kk _ _ _ _ _ _ _ _ _ _ _ _ kD kM (by exact rfl) (by exact rfl) (by exact rfl) ⟨kL.1, kL.2.1, kL.2.2.1, kL.2.2.2.1, ktn_ltOf kL.2.2.2.2⟩ ⟨k1, k2⟩ kF kN
theorem words_Lc4_2 : True := by
  k_with "call ref" => ((k_here; k_dflt ( (show wpAny _ _ (call (Value.ref 64) _) _ _ _); (refine' idm_firstV (x := 65535) (b := 3) (q := 21845) (k := 8) ?BW7 ?FW7 ?XW7 ?TW7 ?hkW7 ?dW7 ?uW7 ?NW7 ?r38W7 ?r45W7 ?hCW7 ?hC2W7 ?e1W7 ?e2W7 ?hxW7 ?hbW7 ?k1W7 ?k2W7 ?k3W7 ?k4W7 ?_); (case BW7 => k_asm); (case FW7 => k_asm); (case XW7 => k_asm); (case TW7 => k_asm); (case NW7 => k_asm); (case hkW7 => rfl); (case dW7 => ktr_room); (case uW7 => ktr_units); (case r38W7 => k_all); (case r45W7 => k_all); (case hCW7 => assumption); (case hC2W7 => assumption); (case e1W7 => decide +kernel); (case e2W7 => decide +kernel); (case hxW7 => decide); (case hbW7 => decide); (case k1W7 => decide); (case k2W7 => decide +kernel); (case k3W7 => decide +kernel); (case k4W7 => decide +kernel); (intro Dq9 cq9 c2q9 ocq9 oc2q9 t1q9 t2q9 hq9 tkq9 Fq9 Nq9 H1q9 H2q9 hsq9 hpq9; (have hp1q9 := hpq9 (_, W.listOf _ _) (by k_mem)); (have hp2q9 := hpq9 (_, itR _ _) (by k_mem)); (try dsimp only at hp1q9 hp2q9)); (try k_sweep))))
  k_with "call ref" => ((k_here; k_dflt ( (show wpAny _ _ (call (Value.ref 64) _) _ _ _); (rename TabHit 73 _ _ _ => hAq9); (rename TabHit 88 _ _ _ => hBq9); (first | refine' idm_next (x := 65535) (b := 5) (q := 13107) (k := 6) ?BW7 ?FW7 ?XW7 ?TW7 ?hkW7 ?dW7 ?uW7 ?NW7 hAq9 hBq9 ?h38W7 ?h45W7 ?hcW7 ?hc2W7 ?hCW7 ?hC2W7 ?hneW7 (by decide +kernel) (by decide +kernel) ?hxW7 ?hbW7 ?k1W7 ?k2W7 ?k3W7 ?k4W7 ?_ | refine' idm_next (x := 65535) (b := 17) (q := 3855) (k := 4) ?BW7 ?FW7 ?XW7 ?TW7 ?hkW7 ?dW7 ?uW7 ?NW7 hAq9 hBq9 ?h38W7 ?h45W7 ?hcW7 ?hc2W7 ?hCW7 ?hC2W7 ?hneW7 (by decide +kernel) (by decide +kernel) ?hxW7 ?hbW7 ?k1W7 ?k2W7 ?k3W7 ?k4W7 ?_ | refine' idm_next (x := 65535) (b := 257) (q := 255) (k := 2) ?BW7 ?FW7 ?XW7 ?TW7 ?hkW7 ?dW7 ?uW7 ?NW7 hAq9 hBq9 ?h38W7 ?h45W7 ?hcW7 ?hc2W7 ?hCW7 ?hC2W7 ?hneW7 (by decide +kernel) (by decide +kernel) ?hxW7 ?hbW7 ?k1W7 ?k2W7 ?k3W7 ?k4W7 ?_); (case BW7 => k_asm); (case FW7 => k_asm); (case XW7 => k_asm); (case TW7 => k_asm); (case NW7 => k_asm); (case hkW7 => rfl); (case dW7 => ktr_room); (case uW7 => ktr_units); (case h38W7 => k_mem); (case h45W7 => k_mem); (case hcW7 => k_mem); (case hc2W7 => k_mem); (case hCW7 => assumption); (case hC2W7 => assumption); (case hneW7 => exact ⟨by k_ne, by k_ne, by k_ne⟩); (case hxW7 => decide); (case hbW7 => decide); (case k1W7 => decide); (case k2W7 => decide +kernel); (case k3W7 => decide +kernel); (case k4W7 => decide +kernel); (intro Dq9 t1q9 t2q9 hq9 tkq9 Fq9 Nq9 hpq9; (have hp1q9 := hpq9 (_, W.listOf _ _) (by k_mem)); (have hp2q9 := hpq9 (_, itR _ _) (by k_mem)); (clear hpq9); (try dsimp only at hp1q9 hp2q9)); (try k_sweep))))
  k_with "UnrEnd" => ((k_here; k_dflt ( (rename Fr _ _ _ _ => kF9); (rename News _ _ _ _ => kN9); (rename (@LT.lt Nat _ LL _ ∧ _) => kA9); (first | refine' unr_endB kF9 kN9 ?o1W7 ?o2W7 ?o3W7 ?o4W7 ?o5W7 ?o6W7 ?o7W7 ?o8W7 ?_ | refine' unr_endB2 kF9 kN9 ?o1W7 ?o2W7 ?o3W7 ?o4W7 ?o5W7 ?o6W7 ?o7W7 ?o8W7 ?_); (case o1W7 => k_ne); (case o2W7 => k_ne); (case o3W7 => k_ne); (case o4W7 => k_ne); (case o5W7 => k_ne); (case o6W7 => k_ne); (case o7W7 => k_ne); (case o8W7 => exact ktn_ltOf kA9.2.2.2.2.2))))
  trivial
set_option maxHeartbeats 4000000 in
theorem segBb4 (he : lawSeg 6 1 = some (st, sc))
    (B : Below callerA h₀ [] h₀) (X : (hd.heap_1 w.params).In h₀) (T : Top p loose mean mg mb h₀) (hC : CodeHd h₀ 42 38) (hC2 : CodeHd h₀ 49 45) (c1 : oz.data = .cell (some (.int 4 tz)))
    (kD : op.IsDictOf (PySem.intKind Challenge.rw_sn0075_01.row.prog w) [(1, .int 2 u1), (2, .int 4 u2), (4, .int 16 u3), (8, .int 256 u4)]) (kM : (Dp == sysModules) = false) (hm1 : m (Str.ofString "powers") = some (.ref Dp)) (hm2 : m (Str.ofString "full") = some (.int 65535 tf)) (hm3 : m (Str.ofString "letters") = some (.ref LL))
    (l1 : @LT.lt Nat _ Dp LL) (l2 : @LT.lt Nat _ (L + 1) LL) (l3 : @LT.lt Nat _ 45 LL) (l4 : @LT.lt Nat _ 38 LL) (hO : OwnOff rst [38, 45, LL]) (d1 : @Ne Nat 45 Dp) (d2 : @Ne Nat 38 Dp) (d3 : @LT.lt Nat _ 45 L) (d4 : @LT.lt Nat _ 38 L)
    (F : Fr h₀ L s.heap m) (N : News h₀ L s.heap ((LL, W.listOf #[] 0) :: (Dp, op) :: (L + 1, oz) :: (45, tabObj #[]) :: (38, tabObj #[]) :: rst))
    (kk : ∀ (c c2 : Addr) (oc oc2 : Obj) (vl : List Value) (n : Nat) (h' : Heap) (tk : Nat) (m' : Str → Option Value), IntsAre vl [43690, 52428, 61680, 65280] → m' (Str.ofString "full") = some (.int 65535 tf) → m' (Str.ofString "letters") = some (.ref LL) →
      TabHit 73 "_int2digits.<locals>.inner" #[rawInt 73, rawInt 4, .ref c] [(c, oc)] → TabHit 88 "_digits2int.<locals>.inner" #[rawInt 88, rawInt 4, .ref c2] [(c2, oc2)] → (@Ne Nat c 38 ∧ @Ne Nat c 45 ∧ @Ne Nat c2 38 ∧ @Ne Nat c2 45 ∧ @Ne Nat c c2) →
      (∀ q ∈ (LL, W.listOf #[] 0) :: (Dp, op) :: (L + 1, oz) :: rst, @Ne Nat q.1 c ∧ @Ne Nat q.1 c2) → Fr h₀ L h' m' →
      News h₀ L h' ((38, tabObj #[rawInt 73, rawInt 4, .ref c]) :: (c, oc) :: (45, tabObj #[rawInt 88, rawInt 4, .ref c2]) :: (c2, oc2) :: (LL, W.listOf vl.toArray n) :: (L + 1, oz) :: rst) → Q .next { s with heap := h', toks := tk }) :
    wpAny (model Challenge.rw_sn0075_01.row.prog w) (callerA.deeper (envOfC (Str.ofString "law") sc L fa cd)) (execs st (envOfC (Str.ofString "law") sc L fa cd)) Q (fun _ _ => False) s := by
  revert X; k_fill; intro X
  have he2 : lawSeg 6 1 = some ([_], _) := rfl
  rw [he] at he2
  cases he2
  clear he
  rw [known hm1, known hm2, known hm3] at F
  repeat (first | (dsimp only; walk1) | walk1)
  (rename Fr _ _ _ _ => kF); (rename News _ _ _ _ => kN); (rename TabHit 73 _ _ _ => kA); (rename TabHit 88 _ _ _ => kB)
  (rename (@Ne Nat _ 38 ∧ @Ne Nat _ 45 ∧ @Ne Nat _ _ ∧ @Ne Nat _ _ ∧ _) => kS); (rename (∀ p, p ∈ _ → @Ne Nat _ _ ∧ @Ne Nat _ _ ∧ @Ne Nat _ _) => kP)
  refine' kk _ _ _ _ [_, _, _, _] _ _ _ _ ?hI ?hf ?hl kA kB ⟨kS.2.2.2.2.1, kS.2.2.2.2.2.1, kS.2.2.2.2.2.2.1, kS.2.2.2.2.2.2.2.1, kS.2.2.2.2.2.2.2.2⟩ (fun q hq => (kP q (.tail _ hq)).2) kF (news_Bcut kN)
  case hI => exact intsA4 (by decide +kernel) (by decide +kernel) (by decide +kernel) (by decide +kernel)
  case hf => exact rfl
  case hl => exact rfl
end
section
variable {w : World} {s : Shared} {h₀ : Heap} {L fa l TL T0 T1 T2 T3 : Addr} {m mg mb : Str → Option Value} {p : Program} {loose : List Str} {mean : ExcName → Option Value} {cd : Value} {o3 o4 o5 oz ot : Obj}
    {st : List Stmt} {sc : Scope} {Q : Flow → Shared → Prop} {q0 q1 q2 q3 : Nat × Nat × Nat} {a0 a1 a2 a3 b0 b1 b2 b3 d0 d1 d2 d3 tz : Tok}
theorem segB4 (he : lawSeg 3 4 = some (st, sc))
    (B : Below callerA h₀ [] h₀) (X : (hd.heap_1 w.params).In h₀) (T : Top p loose mean mg mb h₀) (hC : CodeHd h₀ 42 38) (hC2 : CodeHd h₀ 49 45)
    (l0 : @LT.lt Nat _ 45 L ∧ @LT.lt Nat _ 38 L) (c1 : oz.data = .cell (some (.int 4 tz))) (lT : @LT.lt Nat _ (L + 1 + 1 + 1 + 1 + 1) T0 ∧ @LT.lt Nat _ (L + 1 + 1 + 1 + 1 + 1) T1 ∧ @LT.lt Nat _ (L + 1 + 1 + 1 + 1 + 1) T2 ∧ @LT.lt Nat _ (L + 1 + 1 + 1 + 1 + 1) T3) (nT : @Ne Nat 45 TL ∧ @Ne Nat 38 TL)
    (F : Fr h₀ L s.heap m) (N : News h₀ L s.heap [(TL, LCg.lst [.ref T0, .ref T1, .ref T2, .ref T3]), (T3, tmO q3 a3 b3 d3), (T2, tmO q2 a2 b2 d2), (T1, tmO q1 a1 b1 d1), (T0, tmO q0 a0 b0 d0), (L + 1 + 1 + 1 + 1 + 1, o5), (L + 1 + 1 + 1 + 1, o4), (L + 1 + 1 + 1, o3), (L + 1 + 1, ot), (L + 1, oz), (45, tabObj #[]), (38, tabObj #[])])
    (kk : ∀ (LL c c2 : Addr) (oc oc2 : Obj) (vl : List Value) (n : Nat) (tf : Tok) (h' : Heap) (dn : Drawn) (tk : Nat) (m' : Str → Option Value), IntsAre vl [43690, 52428, 61680, 65280] → m' (Str.ofString "full") = some (.int 65535 tf) → m' (Str.ofString "letters") = some (.ref LL) →
      TabHit 73 "_int2digits.<locals>.inner" #[rawInt 73, rawInt 4, .ref c] [(c, oc)] → TabHit 88 "_digits2int.<locals>.inner" #[rawInt 88, rawInt 4, .ref c2] [(c2, oc2)] → @LT.lt Nat _ (L + 1 + 1 + 1 + 1 + 1) LL → (@Ne Nat c 38 ∧ @Ne Nat c 45 ∧ @Ne Nat c2 38 ∧ @Ne Nat c2 45 ∧ @Ne Nat c c2) →
      (∀ x ∈ ([LL, TL, T3, T2, T1, T0, L + 1 + 1 + 1 + 1 + 1, L + 1 + 1 + 1 + 1, L + 1 + 1 + 1, L + 1 + 1, L + 1] : List Nat), @Ne Nat x c ∧ @Ne Nat x c2) → Fr h₀ L h' m' →
      News h₀ L h' [(38, tabObj #[rawInt 73, rawInt 4, .ref c]), (c, oc), (45, tabObj #[rawInt 88, rawInt 4, .ref c2]), (c2, oc2), (LL, W.listOf vl.toArray n), (TL, LCg.lst [.ref T0, .ref T1, .ref T2, .ref T3]), (T3, tmO q3 a3 b3 d3), (T2, tmO q2 a2 b2 d2), (T1, tmO q1 a1 b1 d1), (T0, tmO q0 a0 b0 d0), (L + 1 + 1 + 1 + 1 + 1, o5), (L + 1 + 1 + 1 + 1, o4), (L + 1 + 1 + 1, o3), (L + 1 + 1, ot), (L + 1, oz)] → Q .next { s with heap := h', drawn := dn, toks := tk }) :
    wpAny (model Challenge.rw_sn0075_01.row.prog w) (callerA.deeper (envOfC (Str.ofString "law") sc L fa cd)) (execs st (envOfC (Str.ofString "law") sc L fa cd)) Q (fun _ _ => False) s := by
  obtain ⟨he1, he2⟩ := law_cut he (a := 3) (by decide)
  have h38 : ∀ q ∈ ([(TL, LCg.lst [.ref T0, .ref T1, .ref T2, .ref T3]), (T3, tmO q3 a3 b3 d3), (T2, tmO q2 a2 b2 d2), (T1, tmO q1 a1 b1 d1), (T0, tmO q0 a0 b0 d0), (L + 1 + 1 + 1 + 1 + 1, o5), (L + 1 + 1 + 1 + 1, o4), (L + 1 + 1 + 1, o3), (L + 1 + 1, ot)] : List (Addr × Obj)), @Ne Nat q.1 38 ∧ @Ne Nat q.1 45 := by
    intro q hq
    simp only [List.mem_cons, List.not_mem_nil, or_false] at hq
    rcases hq with rfl | rfl | rfl | rfl | rfl | rfl | rfl | rfl | rfl
    · exact ⟨nT.2.symm, nT.1.symm⟩
    all_goals exact ⟨by show @Ne Nat _ _; dsimp only; clear N F kk; omega, by show @Ne Nat _ _; dsimp only; clear N F kk; omega⟩
  rw [show st = st.take 3 ++ st.drop 3 from (List.take_append_drop 3 st).symm]
  refine execs_app (segBa4 (rst := [(TL, LCg.lst [.ref T0, .ref T1, .ref T2, .ref T3]), (T3, tmO q3 a3 b3 d3), (T2, tmO q2 a2 b2 d2), (T1, tmO q1 a1 b1 d1), (T0, tmO q0 a0 b0 d0), (L + 1 + 1 + 1 + 1 + 1, o5), (L + 1 + 1 + 1 + 1, o4), (L + 1 + 1 + 1, o3), (L + 1 + 1, ot)]) he1 B X T c1 F (fun q hq => N q (by
    exact sub_app (by (k_extra "mine:sub")) hq)) fun LL Dp op u1 u2 u3 u4 tf h1 dn1 tk1 m1 kD kM e1 e2 e3 kL kN' F1 N1 => ?_)
  dsimp only
  have hL5 := kL.2.2.2.2 (L + 1 + 1 + 1 + 1 + 1, o5) (by simp)
  refine segBb4 he2 B X T hC hC2 c1 kD kM e1 e2 e3 kL.1 kL.2.1 kL.2.2.1 kL.2.2.2.1 (fun q hq b hb => ?_) kN'.1 kN'.2 l0.1 l0.2 F1 N1 fun c c2 oc oc2 vl n h2 tk2 m2 hI g1 g2 kA kB kS kP F2 N2 => ?_
  · simp only [List.mem_cons, List.not_mem_nil, or_false] at hb
    rcases hb with rfl | rfl | rfl
    · exact (h38 q hq).1
    · exact (h38 q hq).2
    · exact Nat.ne_of_lt (kL.2.2.2.2 q hq)
  · refine kk LL c c2 oc oc2 vl n tf h2 dn1 tk2 m2 hI g1 g2 kA kB hL5 kS (fun x hx => ?_) F2 (fun q hq => N2 q (by
      exact sub_app (by (k_extra "mine:sub")) hq))
    simp only [List.mem_cons, List.not_mem_nil, or_false] at hx
    rcases hx with rfl | rfl | rfl | rfl | rfl | rfl | rfl | rfl | rfl | rfl | rfl
    · exact kP (x, W.listOf #[] 0) (by simp)
    · exact kP (x, LCg.lst [.ref T0, .ref T1, .ref T2, .ref T3]) (by simp)
    · exact kP (x, tmO q3 a3 b3 d3) (by simp)
    · exact kP (x, tmO q2 a2 b2 d2) (by simp)
    · exact kP (x, tmO q1 a1 b1 d1) (by simp)
    · exact kP (x, tmO q0 a0 b0 d0) (by simp)
    · exact kP (L + 1 + 1 + 1 + 1 + 1, o5) (by simp)
    · exact kP (L + 1 + 1 + 1 + 1, o4) (by simp)
    · exact kP (L + 1 + 1 + 1, o3) (by simp)
    · exact kP (L + 1 + 1, ot) (by simp)
    · exact kP (L + 1, oz) (by simp)
end
end PartLc4
section PartLe3
theorem base_Le3 : True := by
  w_top off
  k_with_none
  k_with "mine:step" => ((first | (k_unfold; (try dsimp only)) | (k_end; wrow_close) | walk1 | (dsimp only; walk1) | (leave1; walk_say "STEP leave1"; try dsimp only) | fail "no step"))
  k_with "storeName" => ((k_here; k_dflt (first | (refine' storeI ?FW7 ?NW7 ?_ ?aW7 ?bW7; (case FW7 => k_asm); (case NW7 => k_asm); (case aW7 => rfl); (case bW7 => rfl); k_whole; intro hq9 tq9 tkq9 Fq9 Nq9; (try k_sweep)) | (refine' storeU ?FW7 ?NW7 ?_ ?aW7 ?bW7; (case FW7 => k_asm); (case NW7 => k_asm); (case aW7 => rfl); (case bW7 => rfl); k_whole; intro hq9 tkq9 Fq9 Nq9; (try k_sweep)))))
  k_with "mine:pj" => (((rename (_ ∧ _) => z); first | exact z.1 | exact Zs z.1 | exact Zl z.1 | exact Zg z.1 | exact z.2 | exact Zs z.2 | exact Zl z.2 | exact Zg z.2 | exact z.2.1 | exact Zs z.2.1 | exact Zl z.2.1 | exact Zg z.2.1 | exact z.2.2 | exact Zs z.2.2 | exact Zl z.2.2 | exact Zg z.2.2 | exact z.2.2.1 | exact Zs z.2.2.1 | exact Zl z.2.2.1 | exact Zg z.2.2.1 | exact z.2.2.2 | exact Zs z.2.2.2 | exact Zl z.2.2.2 | exact Zg z.2.2.2 | exact z.2.2.2.1 | exact Zs z.2.2.2.1 | exact Zl z.2.2.2.1 | exact Zg z.2.2.2.1 | exact z.2.2.2.2 | exact Zs z.2.2.2.2 | exact Zl z.2.2.2.2 | exact Zg z.2.2.2.2 | exact z.2.2.2.2.1 | exact Zs z.2.2.2.2.1 | exact Zl z.2.2.2.2.1 | exact Zg z.2.2.2.2.1 | exact z.2.2.2.2.2 | exact Zs z.2.2.2.2.2 | exact Zl z.2.2.2.2.2 | exact Zg z.2.2.2.2.2 | exact z.2.2.2.2.2.1 | exact Zs z.2.2.2.2.2.1 | exact Zl z.2.2.2.2.2.1 | exact Zg z.2.2.2.2.2.1 | exact z.2.2.2.2.2.2 | exact Zs z.2.2.2.2.2.2 | exact Zl z.2.2.2.2.2.2 | exact Zg z.2.2.2.2.2.2 | exact z.2.2.2.2.2.2.1 | exact Zs z.2.2.2.2.2.2.1 | exact Zl z.2.2.2.2.2.2.1 | exact Zg z.2.2.2.2.2.2.1 | exact z.2.2.2.2.2.2.2 | exact Zs z.2.2.2.2.2.2.2 | exact Zl z.2.2.2.2.2.2.2 | exact Zg z.2.2.2.2.2.2.2 | exact z.2.2.2.2.2.2.2.1 | exact Zs z.2.2.2.2.2.2.2.1 | exact Zl z.2.2.2.2.2.2.2.1 | exact Zg z.2.2.2.2.2.2.2.1 | exact z.2.2.2.2.2.2.2.2 | exact Zs z.2.2.2.2.2.2.2.2 | exact Zl z.2.2.2.2.2.2.2.2 | exact Zg z.2.2.2.2.2.2.2.2 | exact z.2.2.2.2.2.2.2.2.1 | exact Zs z.2.2.2.2.2.2.2.2.1 | exact Zl z.2.2.2.2.2.2.2.2.1 | exact Zg z.2.2.2.2.2.2.2.2.1 | exact z.2.2.2.2.2.2.2.2.2.1 | exact Zs z.2.2.2.2.2.2.2.2.2.1 | exact Zl z.2.2.2.2.2.2.2.2.2.1 | exact Zg z.2.2.2.2.2.2.2.2.2.1 | exact z.2.2.2.2.2.2.2.2.2.2.1 | exact Zs z.2.2.2.2.2.2.2.2.2.2.1 | exact Zl z.2.2.2.2.2.2.2.2.2.2.1 | exact Zg z.2.2.2.2.2.2.2.2.2.2.1 | exact z.2.2.2.2.2.2.2.2.2.2.2.1 | exact Zs z.2.2.2.2.2.2.2.2.2.2.2.1 | exact Zl z.2.2.2.2.2.2.2.2.2.2.2.1 | exact Zg z.2.2.2.2.2.2.2.2.2.2.2.1 | exact z.2.2.2.2.2.2.2.2.2.2.2.2.1 | exact Zs z.2.2.2.2.2.2.2.2.2.2.2.2.1 | exact Zl z.2.2.2.2.2.2.2.2.2.2.2.2.1 | exact Zg z.2.2.2.2.2.2.2.2.2.2.2.2.1 | exact z.2.2.2.2.2.2.2.2.2.2.2.2.2.1 | exact Zs z.2.2.2.2.2.2.2.2.2.2.2.2.2.1 | exact Zl z.2.2.2.2.2.2.2.2.2.2.2.2.2.1 | exact Zg z.2.2.2.2.2.2.2.2.2.2.2.2.2.1 | (clear z; (k_extra "mine:pj"))))
  k_with "mine:ne" => (first | (with_reducible assumption) | exact Ne.symm (by with_reducible assumption) | exact ne_lt (by with_reducible assumption) | exact ne_gt (by with_reducible assumption) | exact ne_lt (lt_led (by with_reducible assumption) (by k_mem)) | exact ne_gt (lt_led (by with_reducible assumption) (by k_mem)) | ((try dsimp only); with_reducible (k_extra "mine:pj")) | assumption | exact Nat.ne_of_lt (Nat.lt_succ_self _) | exact Nat.ne_of_gt (Nat.lt_succ_self _) | (walk_say "K_NE OMEGA"; refine neN ?_; (try dsimp only); omega))
  k_with "mine:nes" => (first | (refine And.intro ?_ ?_ <;> (k_extra "mine:nes")) | k_ne)
  k_with "mine:in" => (first | (with_reducible exact List.mem_cons_self) | (with_reducible assumption) | ((with_reducible refine List.mem_cons_of_mem _ ?_); (k_extra "mine:in")) | exact List.mem_cons_self | (refine List.mem_cons_of_mem _ ?_; (k_extra "mine:in")) | (refine List.mem_append_left _ ?_; (k_extra "mine:in")) | (refine List.mem_append_right _ ?_; (k_extra "mine:in")))
  k_with "mine:sub" => (first | (with_reducible exact sub_id) | (with_reducible exact sub_nil) | ((with_reducible refine sub_cons ?haW7 ?hbW7); (case haW7 => (k_extra "mine:in")); (case hbW7 => (k_extra "mine:sub"))) | ((with_reducible refine sub_both ?haW7 ?hbW7); (case haW7 => (k_extra "mine:sub")); (case hbW7 => (k_extra "mine:sub"))) | ((with_reducible refine sub_skip ?_); (k_extra "mine:sub")) | ((with_reducible refine sub_right ?_); (k_extra "mine:sub")) | ((with_reducible refine sub_left ?_); (k_extra "mine:sub")) | (simp only [List.nil_append, List.cons_append]; (k_extra "mine:sub")))
  k_with "mine:keys" => (first | (k_dflt (exact keys_of rfl rfl)) | (walk_say "K_KEYS LONG"; repeat (first | exact True.intro | refine And.intro ⟨_, _, rfl, rfl⟩ ?_)))
  k_with "mine:enter0" => ((refine' enter0 ?k1W7 ?k2W7 ?k3W7 ?k4W7 ?kKW7 ?k8W7 ?k6W7 ?k7W7 ?k9W7 ?kBW7 ?_ ?c2W7 ?c3W7 ?c4W7 ?c5W7; (case kKW7 => assumption); (case k1W7 => k_asm); (case k2W7 => k_asm); (case k3W7 => k_asm); (case k4W7 => k_asm); (case k6W7 => k_is); (case k7W7 => k_is); (case k8W7 => ktr_room); (case k9W7 => exact BindsTo.of_eq rfl); (case c5W7 => decide); (case kBW7 => exact locs rfl); (case c2W7 => exact rfl); (case c3W7 => exact rfl); (case c4W7 => exact rfl); k_whole; intro Lq9 hq9 tkq9 Fq9 Nq9 Bq9 Xq9 Tq9; (try dsimp only); (try k_fold)))
  k_with "mine:ret" => (((all_goals (try dsimp only)); (all_goals (try k_unfold)); (all_goals (try dsimp only))))
  k_with "mine:same" => (first | exact fun _ _ => rfl | exact fun _ _ _ => rfl | exact same_fg | exact same_fgN | (refine same_upY ?_; (k_extra "mine:same")) | (refine same_up (by rfl) ?_; (k_extra "mine:same")) | (refine same_upN (by rfl) ?_; (k_extra "mine:same")) | (intros; (try dsimp only [forget, up]); (repeat' split); all_goals first | rfl | (exfalso; subst_vars; (rename (List.contains _ _ = false) => hz9); (revert hz9); decide) | (exfalso; (rename (List.contains _ _ = false) => hz9); (rename (List.contains _ _ = true) => hz8); rw [hz9] at hz8; exact Bool.noConfusion hz8) | (exfalso; subst_vars; contradiction)))
  trivial
open PySem PySem.W PySem.Calls PySem.Spec PyProof.Rows
theorem i2d_arg3 (v : Nat) : (255 + 1 + (v : Int)) = ((256 + v : Nat) : Int) := by omega
section
variable {w : World} {s : Shared} {h₀ : Heap} {L fa l TL T0 T1 T2 T3 LL RL c c2 : Addr} {m mg mb : Str → Option Value} {p : Program} {loose : List Str} {mean : ExcName → Option Value} {cd : Value} {o3 o4 o5 oz ot oc oc2 : Obj}
    {st : List Stmt} {sc : Scope} {Q : Flow → Shared → Prop} {q0 q1 q2 q3 : Nat × Nat × Nat} {a0 a1 a2 a3 b0 b1 b2 b3 d0 d1 d2 d3 tz tf : Tok} {vl vr : List Value} {nl nr : Nat} {lts row : List Int} {v : Nat}
theorem words_Le3_1 : True := by
  k_with "call ref" => ((k_here; k_dflt ( (show wpAny _ _ (call (Value.ref 136) _) _ _ _); (rename News _ _ _ _ => kN9); (refine' use_spec ?FW7 ?NW7 (spec_table (vr := vr) (vl := vl) (row := row) (lts := lts) (v := (v : Int)) ?BW7 ?F1W7 ?XW7 ?TW7 ?hkW7 ?dW7 ?uW7 ?hrW7 ?hlW7 ?hriW7 ?hliW7 ?hn1W7 ?hn2W7 ?hRunW7) ?_); (case FW7 => k_asm); (case NW7 => k_asm); (case BW7 => k_asm); (case F1W7 => k_asm); (case XW7 => k_asm); (case TW7 => k_asm); (case hkW7 => rfl); (case dW7 => ktr_room); (case uW7 => ktr_units); (case hrW7 => exact ledger_list kN9 (by k_mem)); (case hlW7 => exact ledger_list kN9 (by k_mem)); (case hriW7 => assumption); (case hliW7 => assumption); (case hn1W7 => assumption); (case hn2W7 => assumption); (case hRunW7 => assumption); (intro vq9 hq9 tkq9 Fq9 Nq9 Eq9 qq9; (obtain ⟨tv, qq9⟩ := qq9); subst qq9); (try k_sweep))))
  k_with "call ref" => ((k_here; k_dflt ( (show wpAny _ _ (call (Value.ref 43) _) _ _ _); (rename TabHit 73 _ _ _ => hAq9); (refine' i2d_hit (x := 256 + v) (n := 1) (k := 9) ?BW7 ?FW7 ?XW7 ?TW7 ?hkW7 ?dW7 ?uW7 ?NW7 hAq9 ?h38W7 ?hcW7 ?hCW7 ?e1W7 ?e2W7 ?hxW7 ?hnW7 ?k1W7 ?k2W7 ?_); (case BW7 => k_asm); (case FW7 => k_asm); (case XW7 => k_asm); (case TW7 => k_asm); (case NW7 => k_asm); (case hkW7 => rfl); (case dW7 => ktr_room); (case uW7 => ktr_units); (case h38W7 => k_mem); (case hcW7 => k_mem); (case hCW7 => assumption); (case e1W7 => exact i2d_arg3 v); (case e2W7 => rfl); (case hxW7 => assumption); (case hnW7 => decide); (case k1W7 => decide); (case k2W7 => assumption); (intro Dq9 valsq9 k0q9 hq9 tkq9 Fq9 Nq9 hpq9 hIq9; have hlenq9 := digs_length 1 9 (256 + v)); (try k_sweep))))
  k_with "CompSrc" => ((k_here; k_dflt ( (refine LCg.CompSrc.range (by rfl) (by k_asm) (by k_asm) (by assumption) (by decide) (by first | exact rangeSize_nat _ _ | rfl) (by exact Nat.le_of_ble_eq_true rfl) ?_); intro gq9; (refine' kcf_range (fun k => (([q0, q1, q2, q3].map (cVal k)).sum).fmod 2) (fun kq9 tq9 Iq9 oIq9 Cq9 oCq9 Dq9 mq9 ysq9 hq9 tkq9 Eq9 hloq9 hhiq9 hCq9 hxq9 Fq9 Nq9 offq9 neq9 hMarkq9 => ?_) ?_))))
  k_with "call ref" => ((k_here; k_dflt ( (show wpAny _ _ (call (Value.ref 129) _) _ _ _); (rename News _ _ _ _ => kN9); (rename (0 ≤ _) => hlo9); (rename (_ < 0 + _) => hhi9); (refine' use_spec ?FW7 ?NW7 (spec_value (vs := [.ref T0, .ref T1, .ref T2, .ref T3]) (qs := [q0, q1, q2, q3]) ?BW7 ?F1W7 ?XW7 ?TW7 ?hkW7 ?dW7 ?uW7 ?hlW7 ?hlenW7 ?hTW7 ?hqW7 ?hpW7) ?_); (case FW7 => k_asm); (case NW7 => k_asm); (case BW7 => k_asm); (case F1W7 => k_asm); (case XW7 => k_asm); (case TW7 => k_asm); (case hkW7 => rfl); (case dW7 => ktr_room); (case uW7 => ktr_units); (case hlW7 => exact ledger_lst kN9 (by k_mem)); (case hlenW7 => rfl); (case hTW7 => exact terms4 (term_at kN9 (by k_mem)) (term_at kN9 (by k_mem)) (term_at kN9 (by k_mem)) (term_at kN9 (by k_mem))); (case hqW7 => assumption); (case hpW7 => exact ⟨hlo9, Int.lt_of_lt_of_le hhi9 (by decide)⟩); (intro vq9 hq9 tkq9 Fq9 Nq9 Eq9 qq9; (obtain ⟨tv, qq9⟩ := qq9); subst qq9); (try k_sweep))))
  k_with "CompEnd" => ((k_here; k_dflt ((rename Fr _ _ _ _ => kFq9); (rename News _ _ _ _ => kNq9); (rename LCg.Off3 _ _ _ _ => kOq9); exact comp_end0 kFq9 kNq9 kOq9 trivial)))
  k_with "KPfDone" => ((k_dflt (unfold KPfDone); intro ysq9 hyq9))
  k_with "FinE" => ((k_here; (unfold LCg.FinE); intro Dq9 hq9 tkq9 Fq9 Nq9 o1q9; (try simp only [List.nil_append, List.cons_append] at Nq9); (try dsimp only)))
  k_with "subscriptTail Name Slice ref ref" => ((k_here; (with_reducible refine wp_stay ?_)))
  trivial
set_option maxHeartbeats 4000000 in
theorem segD3 (he : lawSeg 10 3 = some (st, sc))
    (B : Below callerA h₀ [] h₀) (X : (hd.heap_1 w.params).In h₀) (T : Top p loose mean mg mb h₀) (hC : CodeHd h₀ 42 38) (ct : ot.data = .cell (some (.ref TL))) (c1 : oz.data = .cell (some (.int 3 tz))) (c4 : o4.data = .cell none)
    (hm1 : m (Str.ofString "full") = some (.int 255 tf)) (hm2 : m (Str.ofString "letters") = some (.ref LL)) (hm3 : m (Str.ofString "row") = some (.ref RL))
    (hIr : IntsAre vr row) (hIl : IntsAre vl lts) (hn1 : row.length < 100) (hn2 : lts.length < 100) (hRun : Run lts 255 row.reverse [] v) (l0 : @LT.lt Nat _ 45 L ∧ @LT.lt Nat _ 38 L) (lT : @LT.lt Nat _ (L + 1 + 1 + 1 + 1 + 1) T0 ∧ @LT.lt Nat _ (L + 1 + 1 + 1 + 1 + 1) T1 ∧ @LT.lt Nat _ (L + 1 + 1 + 1 + 1 + 1) T2 ∧ @LT.lt Nat _ (L + 1 + 1 + 1 + 1 + 1) T3) (lR : @LT.lt Nat _ (L + 1 + 1 + 1 + 1 + 1) RL ∧ @LT.lt Nat _ (L + 1 + 1 + 1 + 1 + 1) LL) (n4 : @Ne Nat (L + 1 + 1 + 1 + 1) c ∧ @Ne Nat (L + 1 + 1 + 1 + 1) c2 ∧ @Ne Nat (L + 1 + 1 + 1 + 1) TL) (hbv : List.take 8 (digs 1 9 (256 + v)) = List.map (fun k => (List.map (cVal k) [q0, q1, q2, q3]).sum.fmod 2) (rangeKs 0 8)) (hqs : ∀ q ∈ [q0, q1, q2, q3], q.1 < 5 ∧ q.2.1 < 4 ∧ q.2.2 < 4) (hT7 : TabHit 73 "_int2digits.<locals>.inner" #[rawInt 73, rawInt 4, .ref c] [(c, oc)]) (hv1 : 0 < 256 + v ∧ 256 + v < 2 ^ 17) (hv2 : ((Builtin.Int.intBits ((256 + v : Nat) : Int) : Int) + (1 : Nat) - 1).fdiv (1 : Nat) = ((9 : Nat) : Int))
    (F : Fr h₀ L s.heap m) (N : News h₀ L s.heap [(RL, W.listOf vr.toArray nr), (38, tabObj #[rawInt 73, rawInt 4, .ref c]), (c, oc), (45, tabObj #[rawInt 88, rawInt 4, .ref c2]), (c2, oc2), (LL, W.listOf vl.toArray nl), (TL, LCg.lst [.ref T0, .ref T1, .ref T2, .ref T3]), (T3, tmO q3 a3 b3 d3), (T2, tmO q2 a2 b2 d2), (T1, tmO q1 a1 b1 d1), (T0, tmO q0 a0 b0 d0), (L + 1 + 1 + 1 + 1 + 1, o5), (L + 1 + 1 + 1 + 1, o4), (L + 1 + 1 + 1, o3), (L + 1 + 1, ot), (L + 1, oz)])
    (kk : ∀ (VL BL : Addr) (vv vb : List Value) (nb : Nat) (o4' : Obj) (h' : Heap) (tk : Nat) (m' : Str → Option Value), IntsAre vv (List.take 8 (digs 1 9 (256 + v))) → IntsAre vb (List.take 8 (digs 1 9 (256 + v))) → o4'.data = .cell (some (.ref VL)) → m' (Str.ofString "bits") = some (.ref BL) → m' (Str.ofString "letters") = some (.ref LL) →
      (@Ne Nat (L + 1 + 1 + 1) VL ∧ @Ne Nat (L + 1 + 1 + 1 + 1 + 1) VL ∧ @LT.lt Nat _ (L + 1 + 1 + 1 + 1 + 1) BL) → Fr h₀ L h' m' →
      News h₀ L h' [(VL, LCg.lst vv), (BL, W.listOf vb.toArray nb), (38, tabObj #[rawInt 73, rawInt 4, .ref c]), (45, tabObj #[rawInt 88, rawInt 4, .ref c2]), (LL, W.listOf vl.toArray nl), (L + 1 + 1 + 1 + 1 + 1, o5), (L + 1 + 1 + 1 + 1, o4'), (L + 1 + 1 + 1, o3), (L + 1, oz)] → Q .next { s with heap := h', toks := tk }) :
    wpAny (model Challenge.rw_sn0075_01.row.prog w) (callerA.deeper (envOfC (Str.ofString "law") sc L fa cd)) (execs st (envOfC (Str.ofString "law") sc L fa cd)) Q (fun _ _ => False) s := by
  revert X; k_fill; intro X
  have he2 : lawSeg 10 3 = some ([_, _, _], _) := rfl
  rw [he] at he2
  cases he2
  clear he
  rw [known hm1, known hm2, known hm3] at F
  repeat (first | (dsimp only; walk1) | walk1)
  unfold Stay
  (rename Fr _ _ _ _ => kF); (rename News _ _ _ _ => kN); (rename IntsAre _ (digs _ _ _) => kI); (rename (List.length (digs _ _ _) = _) => kL)
  refine' kmk_slice_ints (s := ⟨_, _, _, _, _⟩) ?sF ?sN ?sl ?sp ?sq ?si ?sm ?sc ?_ ?ss ?st ?sz
  case sF => exact kF
  case sN => exact kN
  case sl => exact ledger_list kN (.head _)
  case sp => kmk_part
  case sq => kmk_part
  case si => exact kI
  case sm => exact kmk_upto_neg kI (by decide)
  case sc => exact List.length_take ..
  case ss => with_unfolding_all rfl
  case st => kmk_pure
  case sz => exact kmk_sz kI (by rw [sizeLine_eq, kL]; decide)
  intro D' ws' h' F' N' l1 hI' hC' hL'
  clear kF kN
  rw [show (List.length (digs 1 9 (256 + v)) - (-(-1 : Int)).toNat) = 8 from by rw [kL]; rfl] at hI'
  clear hC' hL'
  (try k_lt l1)
  repeat (first | (dsimp only; walk1) | walk1)
  (rename LCg.Off1 _ _ => o9); (rename News _ _ _ _ => kN)
  have d4 : @Ne Nat (L + 1 + 1 + 1 + 1) _ := off1_mem o9 (L + 1 + 1 + 1 + 1, o4) (by k_mem)
  have d3' : @Ne Nat (L + 1 + 1 + 1) _ := off1_mem o9 (L + 1 + 1 + 1, o3) (by k_mem)
  have d5' : @Ne Nat (L + 1 + 1 + 1 + 1 + 1) _ := off1_mem o9 (L + 1 + 1 + 1 + 1 + 1, o5) (by k_mem)
  clear o9
  replace kN := news_drop2 kN
  repeat (first | (dsimp only; walk1) | walk1)
  all_goals first
    | ((rename (¬ (List.take _ _ = List.map _ _)) => kE); exact absurd hbv kE)
    | ((rename Fr _ _ _ _ => kF); (rename News _ _ _ _ => kN); (rename Obj.data _ = Data.cell (some (Value.ref _)) => kc); (rename IntsAre _ (List.map _ _) => kV); (rename (List.take _ _ = List.map _ _) => kE)
       have kW := Eq.mpr (congrArg (IntsAre _) kE) kV
       have hlt : @LT.lt Nat _ (L + 1 + 1 + 1 + 1 + 1) D' := by clear d3' d4 d5' kk; omega
       refine' kk _ D' _ ws' 0 _ _ _ _ kW hI' kc ?y1 ?y2 ⟨d3', d5', hlt⟩ kF ?y3
       case y1 => exact rfl
       case y2 => exact rfl
       case y3 => exact news_pick9 kN)
end
end PartLe3
section PartLe4
theorem base_Le4 : True := by
  w_top off
  k_with_none
  k_with "mine:step" => ((first | (k_unfold; (try dsimp only)) | (k_end; wrow_close) | walk1 | (dsimp only; walk1) | (leave1; walk_say "STEP leave1"; try dsimp only) | fail "no step"))
  k_with "storeName" => ((k_here; k_dflt (first | (refine' storeI ?FW7 ?NW7 ?_ ?aW7 ?bW7; (case FW7 => k_asm); (case NW7 => k_asm); (case aW7 => rfl); (case bW7 => rfl); k_whole; intro hq9 tq9 tkq9 Fq9 Nq9; (try k_sweep)) | (refine' storeU ?FW7 ?NW7 ?_ ?aW7 ?bW7; (case FW7 => k_asm); (case NW7 => k_asm); (case aW7 => rfl); (case bW7 => rfl); k_whole; intro hq9 tkq9 Fq9 Nq9; (try k_sweep)))))
  k_with "mine:pj" => (((rename (_ ∧ _) => z); first | exact z.1 | exact Zs z.1 | exact Zl z.1 | exact Zg z.1 | exact z.2 | exact Zs z.2 | exact Zl z.2 | exact Zg z.2 | exact z.2.1 | exact Zs z.2.1 | exact Zl z.2.1 | exact Zg z.2.1 | exact z.2.2 | exact Zs z.2.2 | exact Zl z.2.2 | exact Zg z.2.2 | exact z.2.2.1 | exact Zs z.2.2.1 | exact Zl z.2.2.1 | exact Zg z.2.2.1 | exact z.2.2.2 | exact Zs z.2.2.2 | exact Zl z.2.2.2 | exact Zg z.2.2.2 | exact z.2.2.2.1 | exact Zs z.2.2.2.1 | exact Zl z.2.2.2.1 | exact Zg z.2.2.2.1 | exact z.2.2.2.2 | exact Zs z.2.2.2.2 | exact Zl z.2.2.2.2 | exact Zg z.2.2.2.2 | exact z.2.2.2.2.1 | exact Zs z.2.2.2.2.1 | exact Zl z.2.2.2.2.1 | exact Zg z.2.2.2.2.1 | exact z.2.2.2.2.2 | exact Zs z.2.2.2.2.2 | exact Zl z.2.2.2.2.2 | exact Zg z.2.2.2.2.2 | exact z.2.2.2.2.2.1 | exact Zs z.2.2.2.2.2.1 | exact Zl z.2.2.2.2.2.1 | exact Zg z.2.2.2.2.2.1 | exact z.2.2.2.2.2.2 | exact Zs z.2.2.2.2.2.2 | exact Zl z.2.2.2.2.2.2 | exact Zg z.2.2.2.2.2.2 | exact z.2.2.2.2.2.2.1 | exact Zs z.2.2.2.2.2.2.1 | exact Zl z.2.2.2.2.2.2.1 | exact Zg z.2.2.2.2.2.2.1 | exact z.2.2.2.2.2.2.2 | exact Zs z.2.2.2.2.2.2.2 | exact Zl z.2.2.2.2.2.2.2 | exact Zg z.2.2.2.2.2.2.2 | exact z.2.2.2.2.2.2.2.1 | exact Zs z.2.2.2.2.2.2.2.1 | exact Zl z.2.2.2.2.2.2.2.1 | exact Zg z.2.2.2.2.2.2.2.1 | exact z.2.2.2.2.2.2.2.2 | exact Zs z.2.2.2.2.2.2.2.2 | exact Zl z.2.2.2.2.2.2.2.2 | exact Zg z.2.2.2.2.2.2.2.2 | exact z.2.2.2.2.2.2.2.2.1 | exact Zs z.2.2.2.2.2.2.2.2.1 | exact Zl z.2.2.2.2.2.2.2.2.1 | exact Zg z.2.2.2.2.2.2.2.2.1 | exact z.2.2.2.2.2.2.2.2.2.1 | exact Zs z.2.2.2.2.2.2.2.2.2.1 | exact Zl z.2.2.2.2.2.2.2.2.2.1 | exact Zg z.2.2.2.2.2.2.2.2.2.1 | exact z.2.2.2.2.2.2.2.2.2.2.1 | exact Zs z.2.2.2.2.2.2.2.2.2.2.1 | exact Zl z.2.2.2.2.2.2.2.2.2.2.1 | exact Zg z.2.2.2.2.2.2.2.2.2.2.1 | exact z.2.2.2.2.2.2.2.2.2.2.2.1 | exact Zs z.2.2.2.2.2.2.2.2.2.2.2.1 | exact Zl z.2.2.2.2.2.2.2.2.2.2.2.1 | exact Zg z.2.2.2.2.2.2.2.2.2.2.2.1 | exact z.2.2.2.2.2.2.2.2.2.2.2.2.1 | exact Zs z.2.2.2.2.2.2.2.2.2.2.2.2.1 | exact Zl z.2.2.2.2.2.2.2.2.2.2.2.2.1 | exact Zg z.2.2.2.2.2.2.2.2.2.2.2.2.1 | exact z.2.2.2.2.2.2.2.2.2.2.2.2.2.1 | exact Zs z.2.2.2.2.2.2.2.2.2.2.2.2.2.1 | exact Zl z.2.2.2.2.2.2.2.2.2.2.2.2.2.1 | exact Zg z.2.2.2.2.2.2.2.2.2.2.2.2.2.1 | (clear z; (k_extra "mine:pj"))))
  k_with "mine:ne" => (first | (with_reducible assumption) | exact Ne.symm (by with_reducible assumption) | exact ne_lt (by with_reducible assumption) | exact ne_gt (by with_reducible assumption) | exact ne_lt (lt_led (by with_reducible assumption) (by k_mem)) | exact ne_gt (lt_led (by with_reducible assumption) (by k_mem)) | ((try dsimp only); with_reducible (k_extra "mine:pj")) | assumption | exact Nat.ne_of_lt (Nat.lt_succ_self _) | exact Nat.ne_of_gt (Nat.lt_succ_self _) | (walk_say "K_NE OMEGA"; refine neN ?_; (try dsimp only); omega))
  k_with "mine:nes" => (first | (refine And.intro ?_ ?_ <;> (k_extra "mine:nes")) | k_ne)
  k_with "mine:in" => (first | (with_reducible exact List.mem_cons_self) | (with_reducible assumption) | ((with_reducible refine List.mem_cons_of_mem _ ?_); (k_extra "mine:in")) | exact List.mem_cons_self | (refine List.mem_cons_of_mem _ ?_; (k_extra "mine:in")) | (refine List.mem_append_left _ ?_; (k_extra "mine:in")) | (refine List.mem_append_right _ ?_; (k_extra "mine:in")))
  k_with "mine:sub" => (first | (with_reducible exact sub_id) | (with_reducible exact sub_nil) | ((with_reducible refine sub_cons ?haW7 ?hbW7); (case haW7 => (k_extra "mine:in")); (case hbW7 => (k_extra "mine:sub"))) | ((with_reducible refine sub_both ?haW7 ?hbW7); (case haW7 => (k_extra "mine:sub")); (case hbW7 => (k_extra "mine:sub"))) | ((with_reducible refine sub_skip ?_); (k_extra "mine:sub")) | ((with_reducible refine sub_right ?_); (k_extra "mine:sub")) | ((with_reducible refine sub_left ?_); (k_extra "mine:sub")) | (simp only [List.nil_append, List.cons_append]; (k_extra "mine:sub")))
  k_with "mine:keys" => (first | (k_dflt (exact keys_of rfl rfl)) | (walk_say "K_KEYS LONG"; repeat (first | exact True.intro | refine And.intro ⟨_, _, rfl, rfl⟩ ?_)))
  k_with "mine:enter0" => ((refine' enter0 ?k1W7 ?k2W7 ?k3W7 ?k4W7 ?kKW7 ?k8W7 ?k6W7 ?k7W7 ?k9W7 ?kBW7 ?_ ?c2W7 ?c3W7 ?c4W7 ?c5W7; (case kKW7 => assumption); (case k1W7 => k_asm); (case k2W7 => k_asm); (case k3W7 => k_asm); (case k4W7 => k_asm); (case k6W7 => k_is); (case k7W7 => k_is); (case k8W7 => ktr_room); (case k9W7 => exact BindsTo.of_eq rfl); (case c5W7 => decide); (case kBW7 => exact locs rfl); (case c2W7 => exact rfl); (case c3W7 => exact rfl); (case c4W7 => exact rfl); k_whole; intro Lq9 hq9 tkq9 Fq9 Nq9 Bq9 Xq9 Tq9; (try dsimp only); (try k_fold)))
  k_with "mine:ret" => (((all_goals (try dsimp only)); (all_goals (try k_unfold)); (all_goals (try dsimp only))))
  k_with "mine:same" => (first | exact fun _ _ => rfl | exact fun _ _ _ => rfl | exact same_fg | exact same_fgN | (refine same_upY ?_; (k_extra "mine:same")) | (refine same_up (by rfl) ?_; (k_extra "mine:same")) | (refine same_upN (by rfl) ?_; (k_extra "mine:same")) | (intros; (try dsimp only [forget, up]); (repeat' split); all_goals first | rfl | (exfalso; subst_vars; (rename (List.contains _ _ = false) => hz9); (revert hz9); decide) | (exfalso; (rename (List.contains _ _ = false) => hz9); (rename (List.contains _ _ = true) => hz8); rw [hz9] at hz8; exact Bool.noConfusion hz8) | (exfalso; subst_vars; contradiction)))
  trivial
open PySem PySem.W PySem.Calls PySem.Spec PyProof.Rows
theorem i2d_arg4 (v : Nat) : (65535 + 1 + (v : Int)) = ((65536 + v : Nat) : Int) := by omega
section
variable {w : World} {s : Shared} {h₀ : Heap} {L fa l TL T0 T1 T2 T3 LL RL c c2 : Addr} {m mg mb : Str → Option Value} {p : Program} {loose : List Str} {mean : ExcName → Option Value} {cd : Value} {o3 o4 o5 oz ot oc oc2 : Obj}
    {st : List Stmt} {sc : Scope} {Q : Flow → Shared → Prop} {q0 q1 q2 q3 : Nat × Nat × Nat} {a0 a1 a2 a3 b0 b1 b2 b3 d0 d1 d2 d3 tz tf : Tok} {vl vr : List Value} {nl nr : Nat} {lts row : List Int} {v : Nat}
theorem words_Le4_1 : True := by
  k_with "call ref" => ((k_here; k_dflt ( (show wpAny _ _ (call (Value.ref 136) _) _ _ _); (rename News _ _ _ _ => kN9); (refine' use_spec ?FW7 ?NW7 (spec_table (vr := vr) (vl := vl) (row := row) (lts := lts) (v := (v : Int)) ?BW7 ?F1W7 ?XW7 ?TW7 ?hkW7 ?dW7 ?uW7 ?hrW7 ?hlW7 ?hriW7 ?hliW7 ?hn1W7 ?hn2W7 ?hRunW7) ?_); (case FW7 => k_asm); (case NW7 => k_asm); (case BW7 => k_asm); (case F1W7 => k_asm); (case XW7 => k_asm); (case TW7 => k_asm); (case hkW7 => rfl); (case dW7 => ktr_room); (case uW7 => ktr_units); (case hrW7 => exact ledger_list kN9 (by k_mem)); (case hlW7 => exact ledger_list kN9 (by k_mem)); (case hriW7 => assumption); (case hliW7 => assumption); (case hn1W7 => assumption); (case hn2W7 => assumption); (case hRunW7 => assumption); (intro vq9 hq9 tkq9 Fq9 Nq9 Eq9 qq9; (obtain ⟨tv, qq9⟩ := qq9); subst qq9); (try k_sweep))))
  k_with "call ref" => ((k_here; k_dflt ( (show wpAny _ _ (call (Value.ref 43) _) _ _ _); (rename TabHit 73 _ _ _ => hAq9); (refine' i2d_hit (x := 65536 + v) (n := 1) (k := 17) ?BW7 ?FW7 ?XW7 ?TW7 ?hkW7 ?dW7 ?uW7 ?NW7 hAq9 ?h38W7 ?hcW7 ?hCW7 ?e1W7 ?e2W7 ?hxW7 ?hnW7 ?k1W7 ?k2W7 ?_); (case BW7 => k_asm); (case FW7 => k_asm); (case XW7 => k_asm); (case TW7 => k_asm); (case NW7 => k_asm); (case hkW7 => rfl); (case dW7 => ktr_room); (case uW7 => ktr_units); (case h38W7 => k_mem); (case hcW7 => k_mem); (case hCW7 => assumption); (case e1W7 => exact i2d_arg4 v); (case e2W7 => rfl); (case hxW7 => assumption); (case hnW7 => decide); (case k1W7 => decide); (case k2W7 => assumption); (intro Dq9 valsq9 k0q9 hq9 tkq9 Fq9 Nq9 hpq9 hIq9; have hlenq9 := digs_length 1 17 (65536 + v)); (try k_sweep))))
  k_with "CompSrc" => ((k_here; k_dflt ( (refine LCg.CompSrc.range (by rfl) (by k_asm) (by k_asm) (by assumption) (by decide) (by first | exact rangeSize_nat _ _ | rfl) (by exact Nat.le_of_ble_eq_true rfl) ?_); intro gq9; (refine' kcf_range (fun k => (([q0, q1, q2, q3].map (cVal k)).sum).fmod 2) (fun kq9 tq9 Iq9 oIq9 Cq9 oCq9 Dq9 mq9 ysq9 hq9 tkq9 Eq9 hloq9 hhiq9 hCq9 hxq9 Fq9 Nq9 offq9 neq9 hMarkq9 => ?_) ?_))))
  k_with "call ref" => ((k_here; k_dflt ( (show wpAny _ _ (call (Value.ref 129) _) _ _ _); (rename News _ _ _ _ => kN9); (rename (0 ≤ _) => hlo9); (rename (_ < 0 + _) => hhi9); (refine' use_spec ?FW7 ?NW7 (spec_value (vs := [.ref T0, .ref T1, .ref T2, .ref T3]) (qs := [q0, q1, q2, q3]) ?BW7 ?F1W7 ?XW7 ?TW7 ?hkW7 ?dW7 ?uW7 ?hlW7 ?hlenW7 ?hTW7 ?hqW7 ?hpW7) ?_); (case FW7 => k_asm); (case NW7 => k_asm); (case BW7 => k_asm); (case F1W7 => k_asm); (case XW7 => k_asm); (case TW7 => k_asm); (case hkW7 => rfl); (case dW7 => ktr_room); (case uW7 => ktr_units); (case hlW7 => exact ledger_lst kN9 (by k_mem)); (case hlenW7 => rfl); (case hTW7 => exact terms4 (term_at kN9 (by k_mem)) (term_at kN9 (by k_mem)) (term_at kN9 (by k_mem)) (term_at kN9 (by k_mem))); (case hqW7 => assumption); (case hpW7 => exact ⟨hlo9, Int.lt_of_lt_of_le hhi9 (by decide)⟩); (intro vq9 hq9 tkq9 Fq9 Nq9 Eq9 qq9; (obtain ⟨tv, qq9⟩ := qq9); subst qq9); (try k_sweep))))
  k_with "CompEnd" => ((k_here; k_dflt ((rename Fr _ _ _ _ => kFq9); (rename News _ _ _ _ => kNq9); (rename LCg.Off3 _ _ _ _ => kOq9); exact comp_end0 kFq9 kNq9 kOq9 trivial)))
  k_with "KPfDone" => ((k_dflt (unfold KPfDone); intro ysq9 hyq9))
  k_with "FinE" => ((k_here; (unfold LCg.FinE); intro Dq9 hq9 tkq9 Fq9 Nq9 o1q9; (try simp only [List.nil_append, List.cons_append] at Nq9); (try dsimp only)))
  k_with "subscriptTail Name Slice ref ref" => ((k_here; (with_reducible refine wp_stay ?_)))
  trivial
set_option maxHeartbeats 4000000 in
theorem segD4 (he : lawSeg 10 3 = some (st, sc))
    (B : Below callerA h₀ [] h₀) (X : (hd.heap_1 w.params).In h₀) (T : Top p loose mean mg mb h₀) (hC : CodeHd h₀ 42 38) (ct : ot.data = .cell (some (.ref TL))) (c1 : oz.data = .cell (some (.int 4 tz))) (c4 : o4.data = .cell none)
    (hm1 : m (Str.ofString "full") = some (.int 65535 tf)) (hm2 : m (Str.ofString "letters") = some (.ref LL)) (hm3 : m (Str.ofString "row") = some (.ref RL))
    (hIr : IntsAre vr row) (hIl : IntsAre vl lts) (hn1 : row.length < 100) (hn2 : lts.length < 100) (hRun : Run lts 65535 row.reverse [] v) (l0 : @LT.lt Nat _ 45 L ∧ @LT.lt Nat _ 38 L) (lT : @LT.lt Nat _ (L + 1 + 1 + 1 + 1 + 1) T0 ∧ @LT.lt Nat _ (L + 1 + 1 + 1 + 1 + 1) T1 ∧ @LT.lt Nat _ (L + 1 + 1 + 1 + 1 + 1) T2 ∧ @LT.lt Nat _ (L + 1 + 1 + 1 + 1 + 1) T3) (lR : @LT.lt Nat _ (L + 1 + 1 + 1 + 1 + 1) RL ∧ @LT.lt Nat _ (L + 1 + 1 + 1 + 1 + 1) LL) (n4 : @Ne Nat (L + 1 + 1 + 1 + 1) c ∧ @Ne Nat (L + 1 + 1 + 1 + 1) c2 ∧ @Ne Nat (L + 1 + 1 + 1 + 1) TL) (hbv : List.take 16 (digs 1 17 (65536 + v)) = List.map (fun k => (List.map (cVal k) [q0, q1, q2, q3]).sum.fmod 2) (rangeKs 0 16)) (hqs : ∀ q ∈ [q0, q1, q2, q3], q.1 < 5 ∧ q.2.1 < 4 ∧ q.2.2 < 4) (hT7 : TabHit 73 "_int2digits.<locals>.inner" #[rawInt 73, rawInt 4, .ref c] [(c, oc)]) (hv1 : 0 < 65536 + v ∧ 65536 + v < 2 ^ 17) (hv2 : ((Builtin.Int.intBits ((65536 + v : Nat) : Int) : Int) + (1 : Nat) - 1).fdiv (1 : Nat) = ((17 : Nat) : Int))
    (F : Fr h₀ L s.heap m) (N : News h₀ L s.heap [(RL, W.listOf vr.toArray nr), (38, tabObj #[rawInt 73, rawInt 4, .ref c]), (c, oc), (45, tabObj #[rawInt 88, rawInt 4, .ref c2]), (c2, oc2), (LL, W.listOf vl.toArray nl), (TL, LCg.lst [.ref T0, .ref T1, .ref T2, .ref T3]), (T3, tmO q3 a3 b3 d3), (T2, tmO q2 a2 b2 d2), (T1, tmO q1 a1 b1 d1), (T0, tmO q0 a0 b0 d0), (L + 1 + 1 + 1 + 1 + 1, o5), (L + 1 + 1 + 1 + 1, o4), (L + 1 + 1 + 1, o3), (L + 1 + 1, ot), (L + 1, oz)])
    (kk : ∀ (VL BL : Addr) (vv vb : List Value) (nb : Nat) (o4' : Obj) (h' : Heap) (tk : Nat) (m' : Str → Option Value), IntsAre vv (List.take 16 (digs 1 17 (65536 + v))) → IntsAre vb (List.take 16 (digs 1 17 (65536 + v))) → o4'.data = .cell (some (.ref VL)) → m' (Str.ofString "bits") = some (.ref BL) → m' (Str.ofString "letters") = some (.ref LL) →
      (@Ne Nat (L + 1 + 1 + 1) VL ∧ @Ne Nat (L + 1 + 1 + 1 + 1 + 1) VL ∧ @LT.lt Nat _ (L + 1 + 1 + 1 + 1 + 1) BL) → Fr h₀ L h' m' →
      News h₀ L h' [(VL, LCg.lst vv), (BL, W.listOf vb.toArray nb), (38, tabObj #[rawInt 73, rawInt 4, .ref c]), (45, tabObj #[rawInt 88, rawInt 4, .ref c2]), (LL, W.listOf vl.toArray nl), (L + 1 + 1 + 1 + 1 + 1, o5), (L + 1 + 1 + 1 + 1, o4'), (L + 1 + 1 + 1, o3), (L + 1, oz)] → Q .next { s with heap := h', toks := tk }) :
    wpAny (model Challenge.rw_sn0075_01.row.prog w) (callerA.deeper (envOfC (Str.ofString "law") sc L fa cd)) (execs st (envOfC (Str.ofString "law") sc L fa cd)) Q (fun _ _ => False) s := by
  revert X; k_fill; intro X
  have he2 : lawSeg 10 3 = some ([_, _, _], _) := rfl
  rw [he] at he2
  cases he2
  clear he
  rw [known hm1, known hm2, known hm3] at F
  repeat (first | (dsimp only; walk1) | walk1)
  unfold Stay
  (rename Fr _ _ _ _ => kF); (rename News _ _ _ _ => kN); (rename IntsAre _ (digs _ _ _) => kI); (rename (List.length (digs _ _ _) = _) => kL)
  refine' kmk_slice_ints (s := ⟨_, _, _, _, _⟩) ?sF ?sN ?sl ?sp ?sq ?si ?sm ?sc ?_ ?ss ?st ?sz
  case sF => exact kF
  case sN => exact kN
  case sl => exact ledger_list kN (.head _)
  case sp => kmk_part
  case sq => kmk_part
  case si => exact kI
  case sm => exact kmk_upto_neg kI (by decide)
  case sc => exact List.length_take ..
  case ss => with_unfolding_all rfl
  case st => kmk_pure
  case sz => exact kmk_sz kI (by rw [sizeLine_eq, kL]; decide)
  intro D' ws' h' F' N' l1 hI' hC' hL'
  clear kF kN
  rw [show (List.length (digs 1 17 (65536 + v)) - (-(-1 : Int)).toNat) = 16 from by rw [kL]; rfl] at hI'
  clear hC' hL'
  (try k_lt l1)
  repeat (first | (dsimp only; walk1) | walk1)
  (rename LCg.Off1 _ _ => o9); (rename News _ _ _ _ => kN)
  have d4 : @Ne Nat (L + 1 + 1 + 1 + 1) _ := off1_mem o9 (L + 1 + 1 + 1 + 1, o4) (by k_mem)
  have d3' : @Ne Nat (L + 1 + 1 + 1) _ := off1_mem o9 (L + 1 + 1 + 1, o3) (by k_mem)
  have d5' : @Ne Nat (L + 1 + 1 + 1 + 1 + 1) _ := off1_mem o9 (L + 1 + 1 + 1 + 1 + 1, o5) (by k_mem)
  clear o9
  replace kN := news_drop2 kN
  repeat (first | (dsimp only; walk1) | walk1)
  all_goals first
    | ((rename (¬ (List.take _ _ = List.map _ _)) => kE); exact absurd hbv kE)
    | ((rename Fr _ _ _ _ => kF); (rename News _ _ _ _ => kN); (rename Obj.data _ = Data.cell (some (Value.ref _)) => kc); (rename IntsAre _ (List.map _ _) => kV); (rename (List.take _ _ = List.map _ _) => kE)
       have kW := Eq.mpr (congrArg (IntsAre _) kE) kV
       have hlt : @LT.lt Nat _ (L + 1 + 1 + 1 + 1 + 1) D' := by clear d3' d4 d5' kk; omega
       refine' kk _ D' _ ws' 0 _ _ _ _ kW hI' kc ?y1 ?y2 ⟨d3', d5', hlt⟩ kF ?y3
       case y1 => exact rfl
       case y2 => exact rfl
       case y3 => exact news_pick9 kN)
end
end PartLe4
section PartQ1
open PySem PySem.W PySem.Calls PySem.Spec PyProof.Rows
noncomputable def termV (lts : List Int) (full : Int) (q : Nat × Nat × Nat) : Int := opI full (signTok q.1) (lts.getD q.2.1 0) (lts.getD q.2.2 0)
theorem opI32 (full x y : Int) : opI full 32 x y = Builtin.bitXor x y := by unfold opI; rfl
theorem signTok_pos : ∀ j, 0 < signTok j ∧ signTok j < 256
  | 0 => by decide
  | 1 => by decide
  | 2 => by decide
  | 3 => by decide
  | _ + 4 => ⟨by show (0 : Int) < 32; decide, by show (32 : Int) < 256; decide⟩
theorem sub256 (n : Nat) : (256 + (n : Int) - 256).toNat = n := by omega
theorem le256 (n : Nat) : (256 : Int) ≤ 256 + (n : Int) := by omega
theorem lt256 {n k : Nat} (h : n < k) : (256 : Int) + (n : Int) - 256 < k := by omega
theorem run_term {lts : List Int} {full x v : Int} {q : Nat × Nat × Nat} {rest pile : List Int} (ha : q.2.1 < lts.length) (hb : q.2.2 < lts.length) (h : Run lts full rest (pile ++ [Builtin.bitXor (termV lts full q) x]) v) :
    Run lts full ((256 + (q.2.2 : Int)) :: (256 + (q.2.1 : Int)) :: signTok q.1 :: 32 :: rest) (pile ++ [x]) v := by
  refine Run.letter _ _ _ _ (le256 _) (lt256 (by assumption)) ?_
  refine Run.letter _ _ _ _ (le256 _) (lt256 (by assumption)) ?_
  rw [sub256, sub256]
  refine Run.op _ _ _ _ (signTok_pos _).1 (signTok_pos _).2 (by simp) ?_
  have e1 : (pile ++ [x] ++ [lts.getD q.2.2 0] ++ [lts.getD q.2.1 0]).getLastD 0 = lts.getD q.2.1 0 := by simp [List.getLastD_eq_getLast?]
  have e2 : (pile ++ [x] ++ [lts.getD q.2.2 0] ++ [lts.getD q.2.1 0]).dropLast.getLastD 0 = lts.getD q.2.2 0 := by rw [List.dropLast_concat]; simp [List.getLastD_eq_getLast?]
  have e3 : (pile ++ [x] ++ [lts.getD q.2.2 0] ++ [lts.getD q.2.1 0]).dropLast.dropLast = pile ++ [x] := by rw [List.dropLast_concat, List.dropLast_concat]
  rw [e1, e2, e3]
  refine Run.op _ _ _ _ (by decide) (by decide) (by simp) ?_
  have f1 : (pile ++ [x] ++ [opI full (signTok q.1) (lts.getD q.2.1 0) (lts.getD q.2.2 0)]).getLastD 0 = termV lts full q := by simp [List.getLastD_eq_getLast?, termV]
  have f2 : (pile ++ [x] ++ [opI full (signTok q.1) (lts.getD q.2.1 0) (lts.getD q.2.2 0)]).dropLast.getLastD 0 = x := by rw [List.dropLast_concat]; simp [List.getLastD_eq_getLast?]
  have f3 : (pile ++ [x] ++ [opI full (signTok q.1) (lts.getD q.2.1 0) (lts.getD q.2.2 0)]).dropLast.dropLast = pile := by rw [List.dropLast_concat, List.dropLast_concat]
  rw [f1, f2, f3, opI32]
  exact h
noncomputable def tabV (lts : List Int) (full : Int) (q0 q1 q2 q3 : Nat × Nat × Nat) : Int :=
  Builtin.bitXor (termV lts full q0) (Builtin.bitXor (termV lts full q1) (Builtin.bitXor (termV lts full q2) (Builtin.bitXor (termV lts full q3) 0)))
theorem run_row {lts : List Int} {full : Int} {q0 q1 q2 q3 : Nat × Nat × Nat} (h0 : q0.2.1 < lts.length ∧ q0.2.2 < lts.length) (h1 : q1.2.1 < lts.length ∧ q1.2.2 < lts.length) (h2 : q2.2.1 < lts.length ∧ q2.2.2 < lts.length) (h3 : q3.2.1 < lts.length ∧ q3.2.2 < lts.length) :
    Run lts full (rowOf q0 q1 q2 q3).reverse [] (tabV lts full q0 q1 q2 q3) := by
  show Run lts full (0 :: (256 + (q3.2.2 : Int)) :: (256 + (q3.2.1 : Int)) :: signTok q3.1 :: 32 :: (256 + (q2.2.2 : Int)) :: (256 + (q2.2.1 : Int)) :: signTok q2.1 :: 32 :: (256 + (q1.2.2 : Int)) :: (256 + (q1.2.1 : Int)) :: signTok q1.1 :: 32 :: (256 + (q0.2.2 : Int)) :: (256 + (q0.2.1 : Int)) :: signTok q0.1 :: 32 :: []) [] _
  refine Run.zero _ _ _ ?_
  exact run_term (pile := []) h3.1 h3.2 (run_term (pile := []) h2.1 h2.2 (run_term (pile := []) h1.1 h1.2 (run_term (pile := []) h0.1 h0.2 (Run.done _))))


noncomputable def lts3 : List Int := [170, 204, 240]
noncomputable def lts4 : List Int := [43690, 52428, 61680, 65280]
/-- a term's table, as a natural number; its bits are the term's values -/
noncomputable abbrev TermBits (lts : List Int) (full : Int) (P : Nat) (q : Nat × Nat × Nat) : Prop :=
  termV lts full q = (((termV lts full q).toNat : Nat) : Int) ∧ (termV lts full q).toNat < 2 ^ P ∧ ∀ k, k < P → (cVal (k : Int) q).fmod 2 = (((termV lts full q).toNat / 2 ^ k % 2 : Nat) : Int)
theorem termBits3 : ∀ j, j < 5 → ∀ a, a < 3 → ∀ b, b < 3 → TermBits lts3 255 8 (j, a, b) := by decide +kernel
theorem termBits4_0 : ∀ a, a < 4 → ∀ b, b < 4 → TermBits lts4 65535 16 (0, a, b) := by decide +kernel
theorem termBits4_1 : ∀ a, a < 4 → ∀ b, b < 4 → TermBits lts4 65535 16 (1, a, b) := by decide +kernel
theorem termBits4_2 : ∀ a, a < 4 → ∀ b, b < 4 → TermBits lts4 65535 16 (2, a, b) := by decide +kernel
theorem termBits4_3 : ∀ a, a < 4 → ∀ b, b < 4 → TermBits lts4 65535 16 (3, a, b) := by decide +kernel
theorem termBits4_4 : ∀ a, a < 4 → ∀ b, b < 4 → TermBits lts4 65535 16 (4, a, b) := by decide +kernel
theorem termBits4 : ∀ j, j < 5 → ∀ a, a < 4 → ∀ b, b < 4 → TermBits lts4 65535 16 (j, a, b) := five termBits4_0 termBits4_1 termBits4_2 termBits4_3 termBits4_4
theorem xor_bit (x y k : Nat) : (x ^^^ y) / 2 ^ k % 2 = (x / 2 ^ k % 2 + y / 2 ^ k % 2) % 2 := by
  rw [← Nat.toNat_testBit, ← Nat.toNat_testBit, ← Nat.toNat_testBit, Nat.testBit_xor]
  cases x.testBit k <;> cases y.testBit k <;> rfl
theorem emod_step {x S : Int} {m n : Nat} (hx : x.fmod 2 = (m : Int)) (hS : S.fmod 2 = (n : Int)) : (x + S).fmod 2 = (((m + n) % 2 : Nat) : Int) := by
  rw [Int.fmod_eq_emod_of_nonneg _ (by decide)] at hx hS ⊢
  rw [Int.add_emod, hx, hS]
  rfl
theorem tab_bits {lts : List Int} {full : Int} {P : Nat} {q0 q1 q2 q3 : Nat × Nat × Nat} (h0 : TermBits lts full P q0) (h1 : TermBits lts full P q1) (h2 : TermBits lts full P q2) (h3 : TermBits lts full P q3) :
    ∃ v : Nat, tabV lts full q0 q1 q2 q3 = (v : Int) ∧ v < 2 ^ P ∧ ∀ k, k < P → (([q0, q1, q2, q3].map (cVal (k : Int))).sum).fmod 2 = ((v / 2 ^ k % 2 : Nat) : Int) := by
  refine ⟨(termV lts full q0).toNat ^^^ ((termV lts full q1).toNat ^^^ ((termV lts full q2).toNat ^^^ ((termV lts full q3).toNat ^^^ 0))), ?_, ?_, fun k hk => ?_⟩
  · unfold tabV
    rw [h0.1, h1.1, h2.1, h3.1]
    rw [show (0 : Int) = ((0 : Nat) : Int) from rfl, bitXor_nat, bitXor_nat, bitXor_nat, bitXor_nat]
    rfl
  · exact Nat.xor_lt_two_pow h0.2.1 (Nat.xor_lt_two_pow h1.2.1 (Nat.xor_lt_two_pow h2.2.1 (Nat.xor_lt_two_pow h3.2.1 (Nat.two_pow_pos P))))
  · rw [xor_bit, xor_bit, xor_bit, xor_bit, Nat.zero_div]
    exact emod_step (h0.2.2 k hk) (emod_step (h1.2.2 k hk) (emod_step (h2.2.2 k hk) (emod_step (S := 0) (n := 0) (h3.2.2 k hk) rfl)))
theorem digs_bits : ∀ (P x : Nat) , List.take P (digs 1 (P + 1) x) = (List.range P).map fun k => ((x / 2 ^ k % 2 : Nat) : Int)
  | 0, x => rfl
  | P + 1, x => by
    rw [digs_succ 1 (P + 1) x (Nat.le_add_left 1 P), List.take_succ_cons, digs_bits P, List.range_succ_eq_map, List.map_cons, List.map_map]
    congr 1
    · rw [Nat.pow_zero, Nat.div_one]
    · refine List.map_congr_left fun k _ => ?_
      show (((x / 2 ^ 1 / 2 ^ k % 2 : Nat)) : Int) = ((x / 2 ^ (k + 1) % 2 : Nat) : Int)
      rw [Nat.div_div_eq_div_mul, ← Nat.pow_add, Nat.add_comm 1 k]
theorem high_bit {P v k : Nat} (h : k < P) : (2 ^ P + v) / 2 ^ k % 2 = v / 2 ^ k % 2 := by
  rw [← Nat.toNat_testBit, ← Nat.toNat_testBit, Nat.testBit_two_pow_add_gt h]
theorem bitsP (P : Nat) {v : Nat} {f : Int → Int} (h : ∀ k : Nat, k < P → f k = ((v / 2 ^ k % 2 : Nat) : Int)) : List.take P (digs 1 (P + 1) (2 ^ P + v)) = List.map f (rangeKs 0 P) := by
  rw [digs_bits, rangeKs, List.map_map]
  refine List.map_congr_left fun k hk => ?_
  have hk := List.mem_range.mp hk
  show _ = f (0 + (k : Int))
  rw [Int.zero_add, h k hk, high_bit hk]
theorem bits3 {v : Nat} {f : Int → Int} (h : ∀ k : Nat, k < 8 → f k = ((v / 2 ^ k % 2 : Nat) : Int)) : List.take 8 (digs 1 9 (256 + v)) = List.map f (rangeKs 0 8) := bitsP 8 h
theorem bits4 {v : Nat} {f : Int → Int} (h : ∀ k : Nat, k < 16 → f k = ((v / 2 ^ k % 2 : Nat) : Int)) : List.take 16 (digs 1 17 (65536 + v)) = List.map f (rangeKs 0 16) := bitsP 16 h
theorem bits_exact {n m : Nat} (h1 : 2 ^ m ≤ n) (h2 : n < 2 ^ (m + 1)) : Builtin.Int.intBits (n : Int) = m + 1 := by
  refine Nat.le_antisymm (intBits_le_iff.mpr (by show n < _; exact h2)) ?_
  rcases Nat.lt_or_ge m (Builtin.Int.intBits (n : Int)) with h | h
  · exact h
  · have := intBits_le_iff.mp h
    exact absurd (show n < 2 ^ m from this) (by omega)
theorem bits_k3 {v : Nat} (h : v < 2 ^ 8) : ((Builtin.Int.intBits ((256 + v : Nat) : Int) : Int) + (1 : Nat) - 1).fdiv (1 : Nat) = ((9 : Nat) : Int) := by
  rw [bits_exact (m := 8) (Nat.le_add_right _ _) (Nat.add_lt_add_left h _)]; rfl
theorem bits_k4 {v : Nat} (h : v < 2 ^ 16) : ((Builtin.Int.intBits ((65536 + v : Nat) : Int) : Int) + (1 : Nat) - 1).fdiv (1 : Nat) = ((17 : Nat) : Int) := by
  rw [bits_exact (m := 16) (Nat.le_add_right _ _) (Nat.add_lt_add_left h _)]; rfl
end PartQ1
section PartLf
theorem base_Lf : True := by
  w_top off
  k_with_none
  k_with "mine:step" => ((first | (k_unfold; (try dsimp only)) | (k_end; wrow_close) | walk1 | (dsimp only; walk1) | (leave1; walk_say "STEP leave1"; try dsimp only) | fail "no step"))
  k_with "storeName" => ((k_here; k_dflt (first | (refine' storeI ?FW7 ?NW7 ?_ ?aW7 ?bW7; (case FW7 => k_asm); (case NW7 => k_asm); (case aW7 => rfl); (case bW7 => rfl); k_whole; intro hq9 tq9 tkq9 Fq9 Nq9; (try k_sweep)) | (refine' storeU ?FW7 ?NW7 ?_ ?aW7 ?bW7; (case FW7 => k_asm); (case NW7 => k_asm); (case aW7 => rfl); (case bW7 => rfl); k_whole; intro hq9 tkq9 Fq9 Nq9; (try k_sweep)))))
  k_with "mine:pj" => (((rename (_ ∧ _) => z); first | exact z.1 | exact Zs z.1 | exact Zl z.1 | exact Zg z.1 | exact z.2 | exact Zs z.2 | exact Zl z.2 | exact Zg z.2 | exact z.2.1 | exact Zs z.2.1 | exact Zl z.2.1 | exact Zg z.2.1 | exact z.2.2 | exact Zs z.2.2 | exact Zl z.2.2 | exact Zg z.2.2 | exact z.2.2.1 | exact Zs z.2.2.1 | exact Zl z.2.2.1 | exact Zg z.2.2.1 | exact z.2.2.2 | exact Zs z.2.2.2 | exact Zl z.2.2.2 | exact Zg z.2.2.2 | exact z.2.2.2.1 | exact Zs z.2.2.2.1 | exact Zl z.2.2.2.1 | exact Zg z.2.2.2.1 | exact z.2.2.2.2 | exact Zs z.2.2.2.2 | exact Zl z.2.2.2.2 | exact Zg z.2.2.2.2 | exact z.2.2.2.2.1 | exact Zs z.2.2.2.2.1 | exact Zl z.2.2.2.2.1 | exact Zg z.2.2.2.2.1 | exact z.2.2.2.2.2 | exact Zs z.2.2.2.2.2 | exact Zl z.2.2.2.2.2 | exact Zg z.2.2.2.2.2 | exact z.2.2.2.2.2.1 | exact Zs z.2.2.2.2.2.1 | exact Zl z.2.2.2.2.2.1 | exact Zg z.2.2.2.2.2.1 | exact z.2.2.2.2.2.2 | exact Zs z.2.2.2.2.2.2 | exact Zl z.2.2.2.2.2.2 | exact Zg z.2.2.2.2.2.2 | exact z.2.2.2.2.2.2.1 | exact Zs z.2.2.2.2.2.2.1 | exact Zl z.2.2.2.2.2.2.1 | exact Zg z.2.2.2.2.2.2.1 | exact z.2.2.2.2.2.2.2 | exact Zs z.2.2.2.2.2.2.2 | exact Zl z.2.2.2.2.2.2.2 | exact Zg z.2.2.2.2.2.2.2 | exact z.2.2.2.2.2.2.2.1 | exact Zs z.2.2.2.2.2.2.2.1 | exact Zl z.2.2.2.2.2.2.2.1 | exact Zg z.2.2.2.2.2.2.2.1 | exact z.2.2.2.2.2.2.2.2 | exact Zs z.2.2.2.2.2.2.2.2 | exact Zl z.2.2.2.2.2.2.2.2 | exact Zg z.2.2.2.2.2.2.2.2 | exact z.2.2.2.2.2.2.2.2.1 | exact Zs z.2.2.2.2.2.2.2.2.1 | exact Zl z.2.2.2.2.2.2.2.2.1 | exact Zg z.2.2.2.2.2.2.2.2.1 | exact z.2.2.2.2.2.2.2.2.2.1 | exact Zs z.2.2.2.2.2.2.2.2.2.1 | exact Zl z.2.2.2.2.2.2.2.2.2.1 | exact Zg z.2.2.2.2.2.2.2.2.2.1 | exact z.2.2.2.2.2.2.2.2.2.2.1 | exact Zs z.2.2.2.2.2.2.2.2.2.2.1 | exact Zl z.2.2.2.2.2.2.2.2.2.2.1 | exact Zg z.2.2.2.2.2.2.2.2.2.2.1 | exact z.2.2.2.2.2.2.2.2.2.2.2.1 | exact Zs z.2.2.2.2.2.2.2.2.2.2.2.1 | exact Zl z.2.2.2.2.2.2.2.2.2.2.2.1 | exact Zg z.2.2.2.2.2.2.2.2.2.2.2.1 | exact z.2.2.2.2.2.2.2.2.2.2.2.2.1 | exact Zs z.2.2.2.2.2.2.2.2.2.2.2.2.1 | exact Zl z.2.2.2.2.2.2.2.2.2.2.2.2.1 | exact Zg z.2.2.2.2.2.2.2.2.2.2.2.2.1 | exact z.2.2.2.2.2.2.2.2.2.2.2.2.2.1 | exact Zs z.2.2.2.2.2.2.2.2.2.2.2.2.2.1 | exact Zl z.2.2.2.2.2.2.2.2.2.2.2.2.2.1 | exact Zg z.2.2.2.2.2.2.2.2.2.2.2.2.2.1 | (clear z; (k_extra "mine:pj"))))
  k_with "mine:ne" => (first | (with_reducible assumption) | exact Ne.symm (by with_reducible assumption) | exact ne_lt (by with_reducible assumption) | exact ne_gt (by with_reducible assumption) | exact ne_lt (lt_led (by with_reducible assumption) (by k_mem)) | exact ne_gt (lt_led (by with_reducible assumption) (by k_mem)) | ((try dsimp only); with_reducible (k_extra "mine:pj")) | assumption | exact Nat.ne_of_lt (Nat.lt_succ_self _) | exact Nat.ne_of_gt (Nat.lt_succ_self _) | (walk_say "K_NE OMEGA"; refine neN ?_; (try dsimp only); omega))
  k_with "mine:nes" => (first | (refine And.intro ?_ ?_ <;> (k_extra "mine:nes")) | k_ne)
  k_with "mine:in" => (first | (with_reducible exact List.mem_cons_self) | (with_reducible assumption) | ((with_reducible refine List.mem_cons_of_mem _ ?_); (k_extra "mine:in")) | exact List.mem_cons_self | (refine List.mem_cons_of_mem _ ?_; (k_extra "mine:in")) | (refine List.mem_append_left _ ?_; (k_extra "mine:in")) | (refine List.mem_append_right _ ?_; (k_extra "mine:in")))
  k_with "mine:sub" => (first | (with_reducible exact sub_id) | (with_reducible exact sub_nil) | ((with_reducible refine sub_cons ?haW7 ?hbW7); (case haW7 => (k_extra "mine:in")); (case hbW7 => (k_extra "mine:sub"))) | ((with_reducible refine sub_both ?haW7 ?hbW7); (case haW7 => (k_extra "mine:sub")); (case hbW7 => (k_extra "mine:sub"))) | ((with_reducible refine sub_skip ?_); (k_extra "mine:sub")) | ((with_reducible refine sub_right ?_); (k_extra "mine:sub")) | ((with_reducible refine sub_left ?_); (k_extra "mine:sub")) | (simp only [List.nil_append, List.cons_append]; (k_extra "mine:sub")))
  k_with "mine:keys" => (first | (k_dflt (exact keys_of rfl rfl)) | (walk_say "K_KEYS LONG"; repeat (first | exact True.intro | refine And.intro ⟨_, _, rfl, rfl⟩ ?_)))
  k_with "mine:enter0" => ((refine' enter0 ?k1W7 ?k2W7 ?k3W7 ?k4W7 ?kKW7 ?k8W7 ?k6W7 ?k7W7 ?k9W7 ?kBW7 ?_ ?c2W7 ?c3W7 ?c4W7 ?c5W7; (case kKW7 => assumption); (case k1W7 => k_asm); (case k2W7 => k_asm); (case k3W7 => k_asm); (case k4W7 => k_asm); (case k6W7 => k_is); (case k7W7 => k_is); (case k8W7 => ktr_room); (case k9W7 => exact BindsTo.of_eq rfl); (case c5W7 => decide); (case kBW7 => exact locs rfl); (case c2W7 => exact rfl); (case c3W7 => exact rfl); (case c4W7 => exact rfl); k_whole; intro Lq9 hq9 tkq9 Fq9 Nq9 Bq9 Xq9 Tq9; (try dsimp only); (try k_fold)))
  k_with "mine:ret" => (((all_goals (try dsimp only)); (all_goals (try k_unfold)); (all_goals (try dsimp only))))
  k_with "mine:same" => (first | exact fun _ _ => rfl | exact fun _ _ _ => rfl | exact same_fg | exact same_fgN | (refine same_upY ?_; (k_extra "mine:same")) | (refine same_up (by rfl) ?_; (k_extra "mine:same")) | (refine same_upN (by rfl) ?_; (k_extra "mine:same")) | (intros; (try dsimp only [forget, up]); (repeat' split); all_goals first | rfl | (exfalso; subst_vars; (rename (List.contains _ _ = false) => hz9); (revert hz9); decide) | (exfalso; (rename (List.contains _ _ = false) => hz9); (rename (List.contains _ _ = true) => hz8); rw [hz9] at hz8; exact Bool.noConfusion hz8) | (exfalso; subst_vars; contradiction)))
  trivial
open PySem PySem.W PySem.Calls PySem.Spec PyProof.Rows
/-- the sums of letters -/
noncomputable def totOf (lts : List Int) : List Int := lts.foldl (fun ts l => ts ++ ts.map fun k => Builtin.bitXor k l) [0]
/-- the word of the values -/
noncomputable def wordOf (ns : List Int) : Str := Txt.join (Str.ofString "") (ns.map (Txt.item (Str.ofString "xX")))
theorem comp_endT {h₀ : Heap} {L I C D : Addr} {m : Str → Option Value} {s₁ : Shared} {oI oC oD : Obj} {S : List (Addr × Obj) → Prop} {r : Str} {t : Tok} {h' : Heap} {tk : Nat} {news : List (Addr × Obj)}
    (F : Fr h₀ L h' m) (N : News h₀ L h' ((I, oI) :: (C, oC) :: (D, oD) :: news)) (off : LCg.Off3 I C D news) (hs : S news) :
    LCg.CompEnd h₀ L m s₁ I oI C oC D oD S (fun y news' => KCtEl news r y news') (.str r t) { s₁ with heap := h', toks := tk } :=
  LCg.CompEnd.intro F N news (fun _ hp => hp) off hs ⟨rfl, t, rfl⟩
section
variable {w : World} {s : Shared} {h₀ : Heap} {L fa VL BL LL : Addr} {m mg mb : Str → Option Value} {p : Program} {loose : List Str} {mean : ExcName → Option Value} {cd : Value} {o3 o4 o5 oz o38 o45 oL : Obj}
    {st : List Stmt} {sc : Scope} {Q : Flow → Shared → Prop} {e0 e1 e2 e3 tz : Tok} {vv vb : List Value} {nl nb : Nat} {ns : List Int}
theorem words_Lf_1 : True := by
  k_with "CompSrc" => ((k_here; k_dflt ( (rename IntsAre vb ns => hIb9); (rename (List.length ns ≤ _) => hns9); (refine LCg.CompSrc.ledger (its := vb.toArray) (k := nb) (by rfl) (by k_asm) (by k_asm) (by k_mem) ?zzW7 ?_); (case zzW7 => exact kmk_sz hIb9 (Nat.le_trans hns9 (by rw [sizeLine_eq]; decide))); intro gq9; (refine' kct_list (fun k => Txt.item (Str.ofString "xX") k) hIb9 (fun kq9 tq9 Iq9 oIq9 Cq9 oCq9 Dq9 mq9 ysq9 hq9 tkq9 Eq9 hkq9 hCq9 hxq9 Fq9 Nq9 offq9 neq9 hMarkq9 => ?_) ?_))))
  k_with "CompEnd" => ((k_here; k_dflt ((rename Fr _ _ _ _ => kFq9); (rename News _ _ _ _ => kNq9); (rename LCg.Off3 _ _ _ _ => kOq9); exact comp_endT kFq9 kNq9 kOq9 (Or.inr ⟨_, by k_mem, rfl, _, rfl⟩))))
  k_with "subscriptTail" => ((k_here; (with_reducible show wpAny _ _ (subscriptTail _ _ (Value.str _ _) (Value.int _ _)) _ _ _); (rename (_ ∈ ns) => hk9); (rename (∀ x, x ∈ ns → 0 ≤ x ∧ x ≤ 1) => h019); (refine KXi.item (by kxi_len) (by exact Int.le_trans (by decide) (h019 _ hk9).1) (by exact Int.lt_of_le_of_lt (h019 _ hk9).2 (by decide)) (by decide) ?_); intro kxiE; clear kxiE))
  k_with "KPfDone" => ((k_dflt (unfold KPfDone); intro ysq9 hyq9 hnq9))
  k_with "FinE" => ((k_here; (unfold LCg.FinE); intro Dq9 hq9 tkq9 Fq9 Nq9 o1q9; (try simp only [List.nil_append, List.cons_append] at Nq9); (try dsimp only)))
  trivial
set_option maxHeartbeats 4000000 in
theorem segE1 (he : lawSeg 13 1 = some (st, sc))
    (B : Below callerA h₀ [] h₀) (X : (hd.heap_1 w.params).In h₀) (T : Top p loose mean mg mb h₀)
    (hm1 : m (Str.ofString "bits") = some (.ref BL)) (hIb : IntsAre vb ns) (hns : ns.length ≤ 16) (h01 : ∀ x ∈ ns, 0 ≤ x ∧ x ≤ 1)
    (F : Fr h₀ L s.heap m) (N : News h₀ L s.heap [(VL, LCg.lst vv), (BL, W.listOf vb.toArray nb), (38, o38), (45, o45), (LL, oL), (L + 1 + 1 + 1 + 1 + 1, o5), (L + 1 + 1 + 1 + 1, o4), (L + 1 + 1 + 1, o3), (L + 1, oz)])
    (kk : ∀ (h' : Heap) (tk : Nat) (t : Tok) (m' : Str → Option Value), m' (Str.ofString "word") = some (.str (wordOf ns) t) → m' (Str.ofString "letters") = m (Str.ofString "letters") → Fr h₀ L h' m' →
      News h₀ L h' [(VL, LCg.lst vv), (BL, W.listOf vb.toArray nb), (38, o38), (45, o45), (LL, oL), (L + 1 + 1 + 1 + 1 + 1, o5), (L + 1 + 1 + 1 + 1, o4), (L + 1 + 1 + 1, o3), (L + 1, oz)] → Q .next { s with heap := h', toks := tk }) :
    wpAny (model Challenge.rw_sn0075_01.row.prog w) (callerA.deeper (envOfC (Str.ofString "law") sc L fa cd)) (execs st (envOfC (Str.ofString "law") sc L fa cd)) Q (fun _ _ => False) s := by
  revert X; k_fill; intro X
  have he2 : lawSeg 13 1 = some ([_], _) := rfl
  rw [he] at he2
  cases he2
  clear he
  rw [known hm1] at F
  repeat (first | (dsimp only; walk1) | walk1)
  (rename Fr _ _ _ _ => kF); (rename News _ _ _ _ => kN)
  refine' kk _ _ _ _ ?y1 ?y2 kF (fun p hp => by first | exact kN p (.tail _ hp) | exact kN p (.tail _ (.tail _ (.tail _ hp))))
  case y1 => exact rfl
  case y2 => exact rfl
end
end PartLf
section PartPb
theorem base_Pb : True := by
  w_top off
  k_with_none
  k_with "mine:step" => ((first | (k_unfold; (try dsimp only)) | (k_end; wrow_close) | walk1 | (dsimp only; walk1) | (leave1; walk_say "STEP leave1"; try dsimp only) | fail "no step"))
  k_with "storeName" => ((k_here; k_dflt (first | (refine' storeI ?FW7 ?NW7 ?_ ?aW7 ?bW7; (case FW7 => k_asm); (case NW7 => k_asm); (case aW7 => rfl); (case bW7 => rfl); k_whole; intro hq9 tq9 tkq9 Fq9 Nq9; (try k_sweep)) | (refine' storeU ?FW7 ?NW7 ?_ ?aW7 ?bW7; (case FW7 => k_asm); (case NW7 => k_asm); (case aW7 => rfl); (case bW7 => rfl); k_whole; intro hq9 tkq9 Fq9 Nq9; (try k_sweep)))))
  k_with "mine:pj" => (((rename (_ ∧ _) => z); first | exact z.1 | exact Zs z.1 | exact Zl z.1 | exact Zg z.1 | exact z.2 | exact Zs z.2 | exact Zl z.2 | exact Zg z.2 | exact z.2.1 | exact Zs z.2.1 | exact Zl z.2.1 | exact Zg z.2.1 | exact z.2.2 | exact Zs z.2.2 | exact Zl z.2.2 | exact Zg z.2.2 | exact z.2.2.1 | exact Zs z.2.2.1 | exact Zl z.2.2.1 | exact Zg z.2.2.1 | exact z.2.2.2 | exact Zs z.2.2.2 | exact Zl z.2.2.2 | exact Zg z.2.2.2 | exact z.2.2.2.1 | exact Zs z.2.2.2.1 | exact Zl z.2.2.2.1 | exact Zg z.2.2.2.1 | exact z.2.2.2.2 | exact Zs z.2.2.2.2 | exact Zl z.2.2.2.2 | exact Zg z.2.2.2.2 | exact z.2.2.2.2.1 | exact Zs z.2.2.2.2.1 | exact Zl z.2.2.2.2.1 | exact Zg z.2.2.2.2.1 | exact z.2.2.2.2.2 | exact Zs z.2.2.2.2.2 | exact Zl z.2.2.2.2.2 | exact Zg z.2.2.2.2.2 | exact z.2.2.2.2.2.1 | exact Zs z.2.2.2.2.2.1 | exact Zl z.2.2.2.2.2.1 | exact Zg z.2.2.2.2.2.1 | exact z.2.2.2.2.2.2 | exact Zs z.2.2.2.2.2.2 | exact Zl z.2.2.2.2.2.2 | exact Zg z.2.2.2.2.2.2 | exact z.2.2.2.2.2.2.1 | exact Zs z.2.2.2.2.2.2.1 | exact Zl z.2.2.2.2.2.2.1 | exact Zg z.2.2.2.2.2.2.1 | exact z.2.2.2.2.2.2.2 | exact Zs z.2.2.2.2.2.2.2 | exact Zl z.2.2.2.2.2.2.2 | exact Zg z.2.2.2.2.2.2.2 | exact z.2.2.2.2.2.2.2.1 | exact Zs z.2.2.2.2.2.2.2.1 | exact Zl z.2.2.2.2.2.2.2.1 | exact Zg z.2.2.2.2.2.2.2.1 | exact z.2.2.2.2.2.2.2.2 | exact Zs z.2.2.2.2.2.2.2.2 | exact Zl z.2.2.2.2.2.2.2.2 | exact Zg z.2.2.2.2.2.2.2.2 | exact z.2.2.2.2.2.2.2.2.1 | exact Zs z.2.2.2.2.2.2.2.2.1 | exact Zl z.2.2.2.2.2.2.2.2.1 | exact Zg z.2.2.2.2.2.2.2.2.1 | exact z.2.2.2.2.2.2.2.2.2.1 | exact Zs z.2.2.2.2.2.2.2.2.2.1 | exact Zl z.2.2.2.2.2.2.2.2.2.1 | exact Zg z.2.2.2.2.2.2.2.2.2.1 | exact z.2.2.2.2.2.2.2.2.2.2.1 | exact Zs z.2.2.2.2.2.2.2.2.2.2.1 | exact Zl z.2.2.2.2.2.2.2.2.2.2.1 | exact Zg z.2.2.2.2.2.2.2.2.2.2.1 | exact z.2.2.2.2.2.2.2.2.2.2.2.1 | exact Zs z.2.2.2.2.2.2.2.2.2.2.2.1 | exact Zl z.2.2.2.2.2.2.2.2.2.2.2.1 | exact Zg z.2.2.2.2.2.2.2.2.2.2.2.1 | exact z.2.2.2.2.2.2.2.2.2.2.2.2.1 | exact Zs z.2.2.2.2.2.2.2.2.2.2.2.2.1 | exact Zl z.2.2.2.2.2.2.2.2.2.2.2.2.1 | exact Zg z.2.2.2.2.2.2.2.2.2.2.2.2.1 | exact z.2.2.2.2.2.2.2.2.2.2.2.2.2.1 | exact Zs z.2.2.2.2.2.2.2.2.2.2.2.2.2.1 | exact Zl z.2.2.2.2.2.2.2.2.2.2.2.2.2.1 | exact Zg z.2.2.2.2.2.2.2.2.2.2.2.2.2.1 | (clear z; (k_extra "mine:pj"))))
  k_with "mine:ne" => (first | (with_reducible assumption) | exact Ne.symm (by with_reducible assumption) | exact ne_lt (by with_reducible assumption) | exact ne_gt (by with_reducible assumption) | exact ne_lt (lt_led (by with_reducible assumption) (by k_mem)) | exact ne_gt (lt_led (by with_reducible assumption) (by k_mem)) | ((try dsimp only); with_reducible (k_extra "mine:pj")) | assumption | exact Nat.ne_of_lt (Nat.lt_succ_self _) | exact Nat.ne_of_gt (Nat.lt_succ_self _) | (walk_say "K_NE OMEGA"; refine neN ?_; (try dsimp only); omega))
  k_with "mine:nes" => (first | (refine And.intro ?_ ?_ <;> (k_extra "mine:nes")) | k_ne)
  k_with "mine:in" => (first | (with_reducible exact List.mem_cons_self) | (with_reducible assumption) | ((with_reducible refine List.mem_cons_of_mem _ ?_); (k_extra "mine:in")) | exact List.mem_cons_self | (refine List.mem_cons_of_mem _ ?_; (k_extra "mine:in")) | (refine List.mem_append_left _ ?_; (k_extra "mine:in")) | (refine List.mem_append_right _ ?_; (k_extra "mine:in")))
  k_with "mine:sub" => (first | (with_reducible exact sub_id) | (with_reducible exact sub_nil) | ((with_reducible refine sub_cons ?haW7 ?hbW7); (case haW7 => (k_extra "mine:in")); (case hbW7 => (k_extra "mine:sub"))) | ((with_reducible refine sub_both ?haW7 ?hbW7); (case haW7 => (k_extra "mine:sub")); (case hbW7 => (k_extra "mine:sub"))) | ((with_reducible refine sub_skip ?_); (k_extra "mine:sub")) | ((with_reducible refine sub_right ?_); (k_extra "mine:sub")) | ((with_reducible refine sub_left ?_); (k_extra "mine:sub")) | (simp only [List.nil_append, List.cons_append]; (k_extra "mine:sub")))
  k_with "mine:keys" => (first | (k_dflt (exact keys_of rfl rfl)) | (walk_say "K_KEYS LONG"; repeat (first | exact True.intro | refine And.intro ⟨_, _, rfl, rfl⟩ ?_)))
  k_with "mine:enter0" => ((refine' enter0 ?k1W7 ?k2W7 ?k3W7 ?k4W7 ?kKW7 ?k8W7 ?k6W7 ?k7W7 ?k9W7 ?kBW7 ?_ ?c2W7 ?c3W7 ?c4W7 ?c5W7; (case kKW7 => assumption); (case k1W7 => k_asm); (case k2W7 => k_asm); (case k3W7 => k_asm); (case k4W7 => k_asm); (case k6W7 => k_is); (case k7W7 => k_is); (case k8W7 => ktr_room); (case k9W7 => exact BindsTo.of_eq rfl); (case c5W7 => decide); (case kBW7 => exact locs rfl); (case c2W7 => exact rfl); (case c3W7 => exact rfl); (case c4W7 => exact rfl); k_whole; intro Lq9 hq9 tkq9 Fq9 Nq9 Bq9 Xq9 Tq9; (try dsimp only); (try k_fold)))
  k_with "mine:ret" => (((all_goals (try dsimp only)); (all_goals (try k_unfold)); (all_goals (try dsimp only))))
  k_with "mine:same" => (first | exact fun _ _ => rfl | exact fun _ _ _ => rfl | exact same_fg | exact same_fgN | (refine same_upY ?_; (k_extra "mine:same")) | (refine same_up (by rfl) ?_; (k_extra "mine:same")) | (refine same_upN (by rfl) ?_; (k_extra "mine:same")) | (intros; (try dsimp only [forget, up]); (repeat' split); all_goals first | rfl | (exfalso; subst_vars; (rename (List.contains _ _ = false) => hz9); (revert hz9); decide) | (exfalso; (rename (List.contains _ _ = false) => hz9); (rename (List.contains _ _ = true) => hz8); rw [hz9] at hz8; exact Bool.noConfusion hz8) | (exfalso; subst_vars; contradiction)))
  trivial
open PySem PySem.W PySem.Calls PySem.Spec PyProof.Rows
noncomputable def bodyOfWhile : List Stmt → Option (List Stmt)
  | [] => none
  | .While _ b _ _ :: _ => some b
  | _ :: r => bodyOfWhile r
/-- the body of the loop of _law_paired -/
noncomputable def pairSeg (i n : Nat) : Option (List Stmt × Scope) := (findDef "_law_paired" Challenge.pw_sn0075_01.main.body).bind fun x => (bodyOfWhile x.2.1).map fun b => ((b.drop i).take n, x.2.2)
noncomputable def hindG (ns : List Int) (one : Int) (l : List Int) (k : Int) : List Int := if hinderI ns one k = 1 then l ++ [k] else l
theorem hind_grows (ns : List Int) (one : Int) : KPfGrows (hindG ns one) := by
  intro l k
  unfold hindG
  split
  · simp
  · omega
theorem hind_filter {ns : List Int} {one : Int} {ks : List Int} : ks.foldl (hindG ns one) [] = ks.filter fun v => decide (hinderI ns one v = 1) := by
  have key : ∀ (ks l : List Int), ks.foldl (hindG ns one) l = l ++ ks.filter fun v => decide (hinderI ns one v = 1) := by
    intro ks
    induction ks with
    | nil => intro l; simp
    | cons k r ih =>
      intro l
      rw [List.foldl_cons, ih]
      unfold hindG
      by_cases h : hinderI ns one k = 1
      · rw [if_pos h, List.filter_cons_of_pos (by simp [h])]; simp
      · rw [if_neg h, List.filter_cons_of_neg (by simp [h])]
  rw [key]; rfl
theorem last_mem {hd : List Int} (h : 0 < hd.length) : hd.getLastD 0 ∈ hd := by
  have hne : hd ≠ [] := fun e => by rw [e] at h; exact absurd h (by decide)
  rw [List.getLastD_eq_getLast?, List.getLast?_eq_some_getLast hne]
  exact List.getLast_mem hne
section
variable {w : World} {A₀ : Around} {s : Shared} {base h₀ g : Heap} {outer : List Env} {L L' H P A l T : Addr} {m0 m mg mb : Str → Option Value} {p : Program} {loose : List Str} {mean : ExcName → Option Value}
  {dp un : Nat} {gd : Option (List Code)} {cn : Str} {cs : Scope} {a : Addr} {ccd : Value} {cl : List (Str × Addr)} {st : List Stmt} {sc : Scope} {Q : Flow → Shared → Prop} {vs hv av pv : List Value} {ns hd : List Int} {kh ka kp : Nat} {oc o2 oT oA oP : Obj}
theorem words_Pb_1 : True := by
  k_with "CompSrcT" => ((k_here; fail "stop"))
  k_with "exec Assign cons ListComp" => ((k_here; k_dflt (refine LCt.Assign_ListComp_T (F₀ := by k_asm) (by rfl) (by with_unfolding_all rfl) (by with_unfolding_all rfl) (by decide) (by rfl) (by decide) (by rfl) (by rfl) (by rfl) ?_)))
  k_with "call ref" => ((k_here; k_dflt ( (show wpAny _ _ (call (Value.ref 143) _) _ _ _); (rename (_ ∈ List.dropLast _) => hk9); (rename (0 ≤ List.getLastD _ _ ∧ _) => ho9); (rename (∀ x, x ∈ List.dropLast _ → _) => hr9); (rename (∀ x y : Int, _ → _ → _) => hxb9); (refine' use_spec ?FW7 ?NW7 (spec_hinder (vs := vs) (ns := ns) ?BW7 ?F1W7 ?XW7 ?TW7 ?hkW7 ?dW7 ?uW7 ?hlW7 ?hiW7 ?hfW7 ?hxW7 ?hyW7 ?hxyW7) ?_); (case FW7 => k_asm); (case NW7 => k_asm); (case BW7 => k_asm); (case F1W7 => k_asm); (case XW7 => k_asm); (case TW7 => k_asm); (case hkW7 => rfl); (case dW7 => ktr_room); (case uW7 => ktr_units); (case hlW7 => exact Heap.IsList.at (h := g) (by assumption) (fun o e => Fr.keep (by assumption) _ _ e)); (case hiW7 => assumption); (case hfW7 => assumption); (case hxW7 => exact ho9); (case hyW7 => exact hr9 _ hk9); (case hxyW7 => exact hxb9 _ _ ho9 (hr9 _ hk9)); (intro vq9 hq9 tkq9 Fq9 Nq9 Eq9 qq9; (obtain ⟨tv, qq9⟩ := qq9); subst qq9); (try k_sweep))))
  trivial
set_option maxHeartbeats 4000000 in
theorem pair_one (he : pairSeg 0 2 = some (st, sc)) (B : Below (ktrTop dp un gd cn cs L a ccd cl outer) base (envX cn cs L a ccd cl :: outer) g) (X : (Mine.hd.heap_1 w.params).In g) (T' : Top p loose mean mg mb g) (hd1 : dp + 2 < recursionLimit) (hu : un + 100 < cLine)
    (hl : g.IsList l vs.toArray) (hi : IntsAre vs ns) (hns : ns.length < 100) (hI : IntsAre hv hd) (hne : 0 < hd.length) (h4 : hd.length ≤ 4) (d2 : o2.data = .cell (some (.ref l)))
    (hb : ∀ x ∈ hd, 0 ≤ x ∧ x < (ns.length : Int)) (hxb : ∀ x y : Int, 0 ≤ x ∧ x < (ns.length : Int) → 0 ≤ y ∧ y < (ns.length : Int) → 0 ≤ Builtin.bitXor x y ∧ Builtin.bitXor x y < (ns.length : Int))
    (hm1 : m (Str.ofString "ahead") = some (.ref H)) (hA : @LT.lt Nat _ (L' + 1 + 1) A ∧ @LT.lt Nat _ (L' + 1 + 1) P) (hH : @Ne Nat H A ∧ @Ne Nat H P ∧ @Ne Nat H (L' + 1 + 1) ∧ @Ne Nat H (L' + 1) ∧ @Ne Nat H T) (hT : @Ne Nat T (L' + 1 + 1))
    (F : Fr g L' s.heap m) (N : News g L' s.heap [(H, W.listOf hv.toArray kh), (A, oA), (P, oP), (T, oT), (L' + 1 + 1, oc), (L' + 1, o2)]) {xc : Option Value} (dc : oc.data = .cell xc)
    (kk : ∀ (PL : Addr) (vp : List Value) (oc' : Obj) (t : Tok) (h' : Heap) (tk : Nat) (m' : Str → Option Value), IntsAre vp (hd.dropLast.filter fun v => decide (hinderI ns (hd.getLastD 0) v = 1)) → IntsAre hv.dropLast hd.dropLast → oc'.data = .cell (some (.int (hd.getLastD 0) t)) → m' (Str.ofString "partners") = some (.ref PL) → (∀ z, z ≠ Str.ofString "partners" → m' z = m z) → (@Ne Nat A PL ∧ @Ne Nat P PL) → Fr g L' h' m' →
      News g L' h' [(PL, LCg.lst vp), (H, W.listOf hv.dropLast.toArray (kh + 1)), (A, oA), (P, oP), (T, oT), (L' + 1 + 1, oc'), (L' + 1, o2)] → Q .next { s with heap := h', toks := tk }) :
    wpAny (model Challenge.rw_sn0075_01.row.prog w) ((ktrTop dp un gd cn cs L a ccd cl outer).deeper (envOfC (Str.ofString "_law_paired") sc L' 148 (.ref 147))) (execs st (envOfC (Str.ofString "_law_paired") sc L' 148 (.ref 147))) Q (fun _ _ => False) s := by
  revert X; k_fill; intro X
  have he2 : pairSeg 0 2 = some ([_, _], _) := rfl
  rw [he] at he2
  cases he2
  clear he
  rw [known hm1] at F
  have hone : 0 ≤ hd.getLastD 0 ∧ hd.getLastD 0 < (ns.length : Int) := hb _ (last_mem hne)
  have hrest : ∀ x, x ∈ hd.dropLast → 0 ≤ x ∧ x < (ns.length : Int) := fun x hx => hb x ((List.dropLast_sublist _).subset hx)
  have hvl := hI.length
  have hv0 : 0 < hv.length := by clear hA hH hT; omega
  repeat (first | (dsimp only; walk1) | walk1)
  (rename Fr _ _ _ _ => kF); (rename News _ _ _ _ => kN); (rename IntsAre _ (List.dropLast _) => kI)
  refine LCt.CompSrcT.ledger (its := hv.dropLast.toArray) (k := kh + 1) ?z1 kF kN (.head _) ?zz ?_
  case z1 => rfl
  case zz => exact kmk_sz kI (Nat.le_trans (by rw [List.length_dropLast]; exact Nat.le_trans (Nat.sub_le _ _) h4) (by rw [sizeLine_eq]; decide))
  intro g'
  clear kF kN
  refine' kci_list (hindG ns (hd.getLastD 0)) kI (fun k' t' I' oI' C' oC' D' m' ys' l' h' tk' E' hk' hI' hC' hx' F' N' off' ne' hMark' => ?_) ?_ ?_
  · clear ne' hMark'
    repeat (first | (dsimp only; walk1) | walk1)
    · (rename Fr _ _ _ _ => kF); (rename News _ _ _ _ => kN); (rename (hinderI _ _ _ = 1) => kh9)
      exact LCg.CompEnd.intro kF kN _ (fun _ hp => hp) off' (Or.inr ⟨_, .head _, rfl, _, rfl⟩) ⟨rfl, k', t', rfl, if_pos kh9⟩
    · (rename Fr _ _ _ _ => kF); (rename News _ _ _ _ => kN); (rename (¬ hinderI _ _ _ = 1) => kh9)
      exact LCg.CompEnd.intro kF kN _ (fun _ hp => hp) off' (Or.inr ⟨_, .head _, rfl, _, rfl⟩) ⟨rfl, if_neg kh9⟩
  · (unfold KPfDone); intro ys' hy' hn'
    (unfold LCg.FinA); intro D' h' tk' F' N' o1'
    dsimp only
    rw [hind_filter] at hy'
    repeat (first | (dsimp only; walk1) | walk1)
    (rename Fr _ _ _ _ => kF); (rename News _ _ _ _ => kN); (rename Obj.data _ = Data.cell (some (Value.int _ _)) => kc)
    refine' kk _ _ _ _ _ _ _ hy' kI kc ?y1 ?y2 ⟨off1_mem o1' (A, oA) (by k_mem), off1_mem o1' (P, oP) (by k_mem)⟩ kF kN
    case y1 => exact rfl
    case y2 => intro z hz; dsimp only; rw [if_neg hz]; split <;> first | (rename_i hz2; subst hz2; exact hm1.symm) | rfl
  · exact hind_grows _ _
end
end PartPb
section PartPd
theorem base_Pd : True := by
  w_top off
  k_with_none
  k_with "mine:step" => ((first | (k_unfold; (try dsimp only)) | (k_end; wrow_close) | walk1 | (dsimp only; walk1) | (leave1; walk_say "STEP leave1"; try dsimp only) | fail "no step"))
  k_with "storeName" => ((k_here; k_dflt (first | (refine' storeI ?FW7 ?NW7 ?_ ?aW7 ?bW7; (case FW7 => k_asm); (case NW7 => k_asm); (case aW7 => rfl); (case bW7 => rfl); k_whole; intro hq9 tq9 tkq9 Fq9 Nq9; (try k_sweep)) | (refine' storeU ?FW7 ?NW7 ?_ ?aW7 ?bW7; (case FW7 => k_asm); (case NW7 => k_asm); (case aW7 => rfl); (case bW7 => rfl); k_whole; intro hq9 tkq9 Fq9 Nq9; (try k_sweep)))))
  k_with "mine:pj" => (((rename (_ ∧ _) => z); first | exact z.1 | exact Zs z.1 | exact Zl z.1 | exact Zg z.1 | exact z.2 | exact Zs z.2 | exact Zl z.2 | exact Zg z.2 | exact z.2.1 | exact Zs z.2.1 | exact Zl z.2.1 | exact Zg z.2.1 | exact z.2.2 | exact Zs z.2.2 | exact Zl z.2.2 | exact Zg z.2.2 | exact z.2.2.1 | exact Zs z.2.2.1 | exact Zl z.2.2.1 | exact Zg z.2.2.1 | exact z.2.2.2 | exact Zs z.2.2.2 | exact Zl z.2.2.2 | exact Zg z.2.2.2 | exact z.2.2.2.1 | exact Zs z.2.2.2.1 | exact Zl z.2.2.2.1 | exact Zg z.2.2.2.1 | exact z.2.2.2.2 | exact Zs z.2.2.2.2 | exact Zl z.2.2.2.2 | exact Zg z.2.2.2.2 | exact z.2.2.2.2.1 | exact Zs z.2.2.2.2.1 | exact Zl z.2.2.2.2.1 | exact Zg z.2.2.2.2.1 | exact z.2.2.2.2.2 | exact Zs z.2.2.2.2.2 | exact Zl z.2.2.2.2.2 | exact Zg z.2.2.2.2.2 | exact z.2.2.2.2.2.1 | exact Zs z.2.2.2.2.2.1 | exact Zl z.2.2.2.2.2.1 | exact Zg z.2.2.2.2.2.1 | exact z.2.2.2.2.2.2 | exact Zs z.2.2.2.2.2.2 | exact Zl z.2.2.2.2.2.2 | exact Zg z.2.2.2.2.2.2 | exact z.2.2.2.2.2.2.1 | exact Zs z.2.2.2.2.2.2.1 | exact Zl z.2.2.2.2.2.2.1 | exact Zg z.2.2.2.2.2.2.1 | exact z.2.2.2.2.2.2.2 | exact Zs z.2.2.2.2.2.2.2 | exact Zl z.2.2.2.2.2.2.2 | exact Zg z.2.2.2.2.2.2.2 | exact z.2.2.2.2.2.2.2.1 | exact Zs z.2.2.2.2.2.2.2.1 | exact Zl z.2.2.2.2.2.2.2.1 | exact Zg z.2.2.2.2.2.2.2.1 | exact z.2.2.2.2.2.2.2.2 | exact Zs z.2.2.2.2.2.2.2.2 | exact Zl z.2.2.2.2.2.2.2.2 | exact Zg z.2.2.2.2.2.2.2.2 | exact z.2.2.2.2.2.2.2.2.1 | exact Zs z.2.2.2.2.2.2.2.2.1 | exact Zl z.2.2.2.2.2.2.2.2.1 | exact Zg z.2.2.2.2.2.2.2.2.1 | exact z.2.2.2.2.2.2.2.2.2.1 | exact Zs z.2.2.2.2.2.2.2.2.2.1 | exact Zl z.2.2.2.2.2.2.2.2.2.1 | exact Zg z.2.2.2.2.2.2.2.2.2.1 | exact z.2.2.2.2.2.2.2.2.2.2.1 | exact Zs z.2.2.2.2.2.2.2.2.2.2.1 | exact Zl z.2.2.2.2.2.2.2.2.2.2.1 | exact Zg z.2.2.2.2.2.2.2.2.2.2.1 | exact z.2.2.2.2.2.2.2.2.2.2.2.1 | exact Zs z.2.2.2.2.2.2.2.2.2.2.2.1 | exact Zl z.2.2.2.2.2.2.2.2.2.2.2.1 | exact Zg z.2.2.2.2.2.2.2.2.2.2.2.1 | exact z.2.2.2.2.2.2.2.2.2.2.2.2.1 | exact Zs z.2.2.2.2.2.2.2.2.2.2.2.2.1 | exact Zl z.2.2.2.2.2.2.2.2.2.2.2.2.1 | exact Zg z.2.2.2.2.2.2.2.2.2.2.2.2.1 | exact z.2.2.2.2.2.2.2.2.2.2.2.2.2.1 | exact Zs z.2.2.2.2.2.2.2.2.2.2.2.2.2.1 | exact Zl z.2.2.2.2.2.2.2.2.2.2.2.2.2.1 | exact Zg z.2.2.2.2.2.2.2.2.2.2.2.2.2.1 | (clear z; (k_extra "mine:pj"))))
  k_with "mine:ne" => (first | (with_reducible assumption) | exact Ne.symm (by with_reducible assumption) | exact ne_lt (by with_reducible assumption) | exact ne_gt (by with_reducible assumption) | exact ne_lt (lt_led (by with_reducible assumption) (by k_mem)) | exact ne_gt (lt_led (by with_reducible assumption) (by k_mem)) | ((try dsimp only); with_reducible (k_extra "mine:pj")) | assumption | exact Nat.ne_of_lt (Nat.lt_succ_self _) | exact Nat.ne_of_gt (Nat.lt_succ_self _) | (walk_say "K_NE OMEGA"; refine neN ?_; (try dsimp only); omega))
  k_with "mine:nes" => (first | (refine And.intro ?_ ?_ <;> (k_extra "mine:nes")) | k_ne)
  k_with "mine:in" => (first | (with_reducible exact List.mem_cons_self) | (with_reducible assumption) | ((with_reducible refine List.mem_cons_of_mem _ ?_); (k_extra "mine:in")) | exact List.mem_cons_self | (refine List.mem_cons_of_mem _ ?_; (k_extra "mine:in")) | (refine List.mem_append_left _ ?_; (k_extra "mine:in")) | (refine List.mem_append_right _ ?_; (k_extra "mine:in")))
  k_with "mine:sub" => (first | (with_reducible exact sub_id) | (with_reducible exact sub_nil) | ((with_reducible refine sub_cons ?haW7 ?hbW7); (case haW7 => (k_extra "mine:in")); (case hbW7 => (k_extra "mine:sub"))) | ((with_reducible refine sub_both ?haW7 ?hbW7); (case haW7 => (k_extra "mine:sub")); (case hbW7 => (k_extra "mine:sub"))) | ((with_reducible refine sub_skip ?_); (k_extra "mine:sub")) | ((with_reducible refine sub_right ?_); (k_extra "mine:sub")) | ((with_reducible refine sub_left ?_); (k_extra "mine:sub")) | (simp only [List.nil_append, List.cons_append]; (k_extra "mine:sub")))
  k_with "mine:keys" => (first | (k_dflt (exact keys_of rfl rfl)) | (walk_say "K_KEYS LONG"; repeat (first | exact True.intro | refine And.intro ⟨_, _, rfl, rfl⟩ ?_)))
  k_with "mine:enter0" => ((refine' enter0 ?k1W7 ?k2W7 ?k3W7 ?k4W7 ?kKW7 ?k8W7 ?k6W7 ?k7W7 ?k9W7 ?kBW7 ?_ ?c2W7 ?c3W7 ?c4W7 ?c5W7; (case kKW7 => assumption); (case k1W7 => k_asm); (case k2W7 => k_asm); (case k3W7 => k_asm); (case k4W7 => k_asm); (case k6W7 => k_is); (case k7W7 => k_is); (case k8W7 => ktr_room); (case k9W7 => exact BindsTo.of_eq rfl); (case c5W7 => decide); (case kBW7 => exact locs rfl); (case c2W7 => exact rfl); (case c3W7 => exact rfl); (case c4W7 => exact rfl); k_whole; intro Lq9 hq9 tkq9 Fq9 Nq9 Bq9 Xq9 Tq9; (try dsimp only); (try k_fold)))
  k_with "mine:ret" => (((all_goals (try dsimp only)); (all_goals (try k_unfold)); (all_goals (try dsimp only))))
  k_with "mine:same" => (first | exact fun _ _ => rfl | exact fun _ _ _ => rfl | exact same_fg | exact same_fgN | (refine same_upY ?_; (k_extra "mine:same")) | (refine same_up (by rfl) ?_; (k_extra "mine:same")) | (refine same_upN (by rfl) ?_; (k_extra "mine:same")) | (intros; (try dsimp only [forget, up]); (repeat' split); all_goals first | rfl | (exfalso; subst_vars; (rename (List.contains _ _ = false) => hz9); (revert hz9); decide) | (exfalso; (rename (List.contains _ _ = false) => hz9); (rename (List.contains _ _ = true) => hz8); rw [hz9] at hz8; exact Bool.noConfusion hz8) | (exfalso; subst_vars; contradiction)))
  trivial
open PySem PySem.W PySem.Calls PySem.Spec PyProof.Rows
noncomputable def elseOfIf : List Stmt → Option (List Stmt)
  | [] => none
  | .If _ _ e _ :: _ => some e
  | _ :: r => elseOfIf r
/-- the else part of the body of _law_paired's loop -/
noncomputable def elseSeg (i n : Nat) : Option (List Stmt × Scope) := (pairSeg 2 1).bind fun x => (elseOfIf x.1).map fun b => ((b.drop i).take n, x.2)
section
variable {w : World} {A₀ : Around} {s : Shared} {base h₀ g : Heap} {outer : List Env} {L L' H P A l T PL : Addr} {m0 m mg mb : Str → Option Value} {p : Program} {loose : List Str} {mean : ExcName → Option Value}
  {dp un : Nat} {gd : Option (List Code)} {cn : Str} {cs : Scope} {a : Addr} {ccd : Value} {cl : List (Str × Addr)} {st : List Stmt} {sc : Scope} {Q : Flow → Shared → Prop} {vs hv av pv vp : List Value} {ns rs al ptn : List Int} {one : Int} {t1 : Tok} {kh ka kp kq : Nat} {oc o2 oT oA : Obj}
theorem words_Pd_1 : True := by
  k_with "compareOp Eq ref ref" => ((k_here; (with_reducible show wpAny _ _ (compareOp CmpOp.Eq (Value.ref _) (Value.ref _)) _ _ _); k_dflt ((rename News _ _ _ _ => kN9); (refine' ke_eq_ints (xs := vp) (ys := []) (ns := ptn) (ms := []) ?e1W7 ?e2W7 ?e3W7 ?e4W7 ?e5W7 ?_); (case e1W7 => exact ledger_list kN9 (by k_mem)); (case e2W7 => exact ledger_list (vs := []) kN9 (by k_mem)); (case e3W7 => assumption); (case e4W7 => exact IntsAre.nil); (case e5W7 => ktr_units))))
  trivial
set_option maxHeartbeats 4000000 in
theorem pair_e1 (he : elseSeg 0 3 = some (st, sc)) (B : Below (ktrTop dp un gd cn cs L a ccd cl outer) base (envX cn cs L a ccd cl :: outer) g) (X : (Mine.hd.heap_1 w.params).In g) (T' : Top p loose mean mg mb g) (hd1 : dp + 2 < recursionLimit) (hu : un + 100 < cLine)
    (hIp : IntsAre vp ptn) (hp0 : 0 < ptn.length) (hp4 : pv.length ≤ 4) (dc : oc.data = .cell (some (.int one t1)))
    (hm2 : m (Str.ofString "partners") = some (.ref PL)) (hm4 : m (Str.ofString "pairs") = some (.ref P))
    (hP : @Ne Nat P PL ∧ @Ne Nat P H ∧ @Ne Nat P A ∧ @Ne Nat P T ∧ @Ne Nat P (L' + 1 + 1) ∧ @Ne Nat P (L' + 1))
    (F : Fr g L' s.heap m) (N : News g L' s.heap [(PL, W.listOf vp.toArray kq), (H, W.listOf hv.toArray kh), (A, oA), (P, W.listOf pv.toArray kp), (T, oT), (L' + 1 + 1, oc), (L' + 1, o2)])
    (kk : ∀ (M TN : Addr) (t2 : Tok) (k' : Nat) (h' : Heap) (tk : Nat) (m' : Str → Option Value), m' (Str.ofString "moved") = some (.ref M) → m' (Str.ofString "other") = some (.int (ptn.getD 0 0) t2) → (∀ z, z ≠ Str.ofString "moved" → z ≠ Str.ofString "other" → m' z = m z) →
      (@LT.lt Nat _ H M ∧ @LT.lt Nat _ A M ∧ @LT.lt Nat _ P M ∧ @LT.lt Nat _ TN M ∧ @LT.lt Nat _ T M ∧ @LT.lt Nat _ (L' + 1 + 1) M ∧ @LT.lt Nat _ (L' + 1) M) → (@LT.lt Nat _ H TN ∧ @LT.lt Nat _ A TN ∧ @LT.lt Nat _ P TN ∧ @LT.lt Nat _ T TN ∧ @LT.lt Nat _ (L' + 1 + 1) TN ∧ @LT.lt Nat _ (L' + 1) TN) → Fr g L' h' m' →
      News g L' h' [(M, W.listOf #[] 0), (TN, tupObj #[.int one t1, .int (ptn.getD 0 0) t2]), (H, W.listOf hv.toArray kh), (A, oA), (P, W.listOf (pv ++ [Value.ref TN]).toArray k'), (T, oT), (L' + 1 + 1, oc), (L' + 1, o2)] → Q .next { s with heap := h', toks := tk }) :
    wpAny (model Challenge.rw_sn0075_01.row.prog w) ((ktrTop dp un gd cn cs L a ccd cl outer).deeper (envOfC (Str.ofString "_law_paired") sc L' 148 (.ref 147))) (execs st (envOfC (Str.ofString "_law_paired") sc L' 148 (.ref 147))) Q (fun _ _ => False) s := by
  revert X; k_fill; intro X
  have he2 : elseSeg 0 3 = some ([_, _, _], _) := rfl
  rw [he] at he2
  cases he2
  clear he
  rw [known hm2, known hm4] at F
  have hpl := hIp.length
  have hp1 : (0 : Int) ≤ 0 ∧ (0 : Int) < (ptn.length : Int) := ⟨Int.le_refl _, by clear hP; omega⟩
  repeat (first | (dsimp only; walk1) | walk1)
  (rename Fr _ _ _ _ => kF); (rename News _ _ _ _ => kN)
  rw [List.push_toArray] at kN
  refine' kk _ _ _ _ _ _ _ ?y1 ?y2 ?y3 ?y4 ?y5 kF (news_drop2 kN)
  case y1 => exact rfl
  case y2 => exact rfl
  case y3 =>
    intro z h1 h2
    dsimp only [up]
    rw [if_neg h1, if_neg h2]
    by_cases h3 : z = Str.ofString "partners"
    · rw [if_pos h3, h3]; exact hm2.symm
    · rw [if_neg h3]
      by_cases h4 : z = Str.ofString "pairs"
      · rw [if_pos h4, h4]; exact hm4.symm
      · rw [if_neg h4]
  case y4 => clear hP kN kF kk; omega
  case y5 => clear hP kN kF kk; omega
end
end PartPd
section PartDf
open PySem PySem.W PySem.Calls PySem.Spec PyProof.Rows
noncomputable def turnF (ns : List Int) (one other v : Int) : Int :=
  if hinderI ns v one = 1 then Builtin.bitXor (if hinderI ns v other = 1 then Builtin.bitXor v one else v) other else (if hinderI ns v other = 1 then Builtin.bitXor v one else v)
noncomputable def movedF (ns : List Int) (one other : Int) (l : List Int) : List Int := (l.filter fun v => decide (v ≠ other)).map (turnF ns one other)
noncomputable abbrev ptnF (ns hd : List Int) : List Int := hd.dropLast.filter fun v => decide (hinderI ns (hd.getLastD 0) v = 1)
end PartDf
section PartPe
theorem base_Pe : True := by
  w_top off
  k_with_none
  k_with "mine:step" => ((first | (k_unfold; (try dsimp only)) | (k_end; wrow_close) | walk1 | (dsimp only; walk1) | (leave1; walk_say "STEP leave1"; try dsimp only) | fail "no step"))
  k_with "storeName" => ((k_here; k_dflt (first | (refine' storeI ?FW7 ?NW7 ?_ ?aW7 ?bW7; (case FW7 => k_asm); (case NW7 => k_asm); (case aW7 => rfl); (case bW7 => rfl); k_whole; intro hq9 tq9 tkq9 Fq9 Nq9; (try k_sweep)) | (refine' storeU ?FW7 ?NW7 ?_ ?aW7 ?bW7; (case FW7 => k_asm); (case NW7 => k_asm); (case aW7 => rfl); (case bW7 => rfl); k_whole; intro hq9 tkq9 Fq9 Nq9; (try k_sweep)))))
  k_with "mine:pj" => (((rename (_ ∧ _) => z); first | exact z.1 | exact Zs z.1 | exact Zl z.1 | exact Zg z.1 | exact z.2 | exact Zs z.2 | exact Zl z.2 | exact Zg z.2 | exact z.2.1 | exact Zs z.2.1 | exact Zl z.2.1 | exact Zg z.2.1 | exact z.2.2 | exact Zs z.2.2 | exact Zl z.2.2 | exact Zg z.2.2 | exact z.2.2.1 | exact Zs z.2.2.1 | exact Zl z.2.2.1 | exact Zg z.2.2.1 | exact z.2.2.2 | exact Zs z.2.2.2 | exact Zl z.2.2.2 | exact Zg z.2.2.2 | exact z.2.2.2.1 | exact Zs z.2.2.2.1 | exact Zl z.2.2.2.1 | exact Zg z.2.2.2.1 | exact z.2.2.2.2 | exact Zs z.2.2.2.2 | exact Zl z.2.2.2.2 | exact Zg z.2.2.2.2 | exact z.2.2.2.2.1 | exact Zs z.2.2.2.2.1 | exact Zl z.2.2.2.2.1 | exact Zg z.2.2.2.2.1 | exact z.2.2.2.2.2 | exact Zs z.2.2.2.2.2 | exact Zl z.2.2.2.2.2 | exact Zg z.2.2.2.2.2 | exact z.2.2.2.2.2.1 | exact Zs z.2.2.2.2.2.1 | exact Zl z.2.2.2.2.2.1 | exact Zg z.2.2.2.2.2.1 | exact z.2.2.2.2.2.2 | exact Zs z.2.2.2.2.2.2 | exact Zl z.2.2.2.2.2.2 | exact Zg z.2.2.2.2.2.2 | exact z.2.2.2.2.2.2.1 | exact Zs z.2.2.2.2.2.2.1 | exact Zl z.2.2.2.2.2.2.1 | exact Zg z.2.2.2.2.2.2.1 | exact z.2.2.2.2.2.2.2 | exact Zs z.2.2.2.2.2.2.2 | exact Zl z.2.2.2.2.2.2.2 | exact Zg z.2.2.2.2.2.2.2 | exact z.2.2.2.2.2.2.2.1 | exact Zs z.2.2.2.2.2.2.2.1 | exact Zl z.2.2.2.2.2.2.2.1 | exact Zg z.2.2.2.2.2.2.2.1 | exact z.2.2.2.2.2.2.2.2 | exact Zs z.2.2.2.2.2.2.2.2 | exact Zl z.2.2.2.2.2.2.2.2 | exact Zg z.2.2.2.2.2.2.2.2 | exact z.2.2.2.2.2.2.2.2.1 | exact Zs z.2.2.2.2.2.2.2.2.1 | exact Zl z.2.2.2.2.2.2.2.2.1 | exact Zg z.2.2.2.2.2.2.2.2.1 | exact z.2.2.2.2.2.2.2.2.2.1 | exact Zs z.2.2.2.2.2.2.2.2.2.1 | exact Zl z.2.2.2.2.2.2.2.2.2.1 | exact Zg z.2.2.2.2.2.2.2.2.2.1 | exact z.2.2.2.2.2.2.2.2.2.2.1 | exact Zs z.2.2.2.2.2.2.2.2.2.2.1 | exact Zl z.2.2.2.2.2.2.2.2.2.2.1 | exact Zg z.2.2.2.2.2.2.2.2.2.2.1 | exact z.2.2.2.2.2.2.2.2.2.2.2.1 | exact Zs z.2.2.2.2.2.2.2.2.2.2.2.1 | exact Zl z.2.2.2.2.2.2.2.2.2.2.2.1 | exact Zg z.2.2.2.2.2.2.2.2.2.2.2.1 | exact z.2.2.2.2.2.2.2.2.2.2.2.2.1 | exact Zs z.2.2.2.2.2.2.2.2.2.2.2.2.1 | exact Zl z.2.2.2.2.2.2.2.2.2.2.2.2.1 | exact Zg z.2.2.2.2.2.2.2.2.2.2.2.2.1 | exact z.2.2.2.2.2.2.2.2.2.2.2.2.2.1 | exact Zs z.2.2.2.2.2.2.2.2.2.2.2.2.2.1 | exact Zl z.2.2.2.2.2.2.2.2.2.2.2.2.2.1 | exact Zg z.2.2.2.2.2.2.2.2.2.2.2.2.2.1 | (clear z; (k_extra "mine:pj"))))
  k_with "mine:ne" => (first | (with_reducible assumption) | exact Ne.symm (by with_reducible assumption) | exact ne_lt (by with_reducible assumption) | exact ne_gt (by with_reducible assumption) | exact ne_lt (lt_led (by with_reducible assumption) (by k_mem)) | exact ne_gt (lt_led (by with_reducible assumption) (by k_mem)) | ((try dsimp only); with_reducible (k_extra "mine:pj")) | assumption | exact Nat.ne_of_lt (Nat.lt_succ_self _) | exact Nat.ne_of_gt (Nat.lt_succ_self _) | (walk_say "K_NE OMEGA"; refine neN ?_; (try dsimp only); omega))
  k_with "mine:nes" => (first | (refine And.intro ?_ ?_ <;> (k_extra "mine:nes")) | k_ne)
  k_with "mine:in" => (first | (with_reducible exact List.mem_cons_self) | (with_reducible assumption) | ((with_reducible refine List.mem_cons_of_mem _ ?_); (k_extra "mine:in")) | exact List.mem_cons_self | (refine List.mem_cons_of_mem _ ?_; (k_extra "mine:in")) | (refine List.mem_append_left _ ?_; (k_extra "mine:in")) | (refine List.mem_append_right _ ?_; (k_extra "mine:in")))
  k_with "mine:sub" => (first | (with_reducible exact sub_id) | (with_reducible exact sub_nil) | ((with_reducible refine sub_cons ?haW7 ?hbW7); (case haW7 => (k_extra "mine:in")); (case hbW7 => (k_extra "mine:sub"))) | ((with_reducible refine sub_both ?haW7 ?hbW7); (case haW7 => (k_extra "mine:sub")); (case hbW7 => (k_extra "mine:sub"))) | ((with_reducible refine sub_skip ?_); (k_extra "mine:sub")) | ((with_reducible refine sub_right ?_); (k_extra "mine:sub")) | ((with_reducible refine sub_left ?_); (k_extra "mine:sub")) | (simp only [List.nil_append, List.cons_append]; (k_extra "mine:sub")))
  k_with "mine:keys" => (first | (k_dflt (exact keys_of rfl rfl)) | (walk_say "K_KEYS LONG"; repeat (first | exact True.intro | refine And.intro ⟨_, _, rfl, rfl⟩ ?_)))
  k_with "mine:enter0" => ((refine' enter0 ?k1W7 ?k2W7 ?k3W7 ?k4W7 ?kKW7 ?k8W7 ?k6W7 ?k7W7 ?k9W7 ?kBW7 ?_ ?c2W7 ?c3W7 ?c4W7 ?c5W7; (case kKW7 => assumption); (case k1W7 => k_asm); (case k2W7 => k_asm); (case k3W7 => k_asm); (case k4W7 => k_asm); (case k6W7 => k_is); (case k7W7 => k_is); (case k8W7 => ktr_room); (case k9W7 => exact BindsTo.of_eq rfl); (case c5W7 => decide); (case kBW7 => exact locs rfl); (case c2W7 => exact rfl); (case c3W7 => exact rfl); (case c4W7 => exact rfl); k_whole; intro Lq9 hq9 tkq9 Fq9 Nq9 Bq9 Xq9 Tq9; (try dsimp only); (try k_fold)))
  k_with "mine:ret" => (((all_goals (try dsimp only)); (all_goals (try k_unfold)); (all_goals (try dsimp only))))
  k_with "mine:same" => (first | exact fun _ _ => rfl | exact fun _ _ _ => rfl | exact same_fg | exact same_fgN | (refine same_upY ?_; (k_extra "mine:same")) | (refine same_up (by rfl) ?_; (k_extra "mine:same")) | (refine same_upN (by rfl) ?_; (k_extra "mine:same")) | (intros; (try dsimp only [forget, up]); (repeat' split); all_goals first | rfl | (exfalso; subst_vars; (rename (List.contains _ _ = false) => hz9); (revert hz9); decide) | (exfalso; (rename (List.contains _ _ = false) => hz9); (rename (List.contains _ _ = true) => hz8); rw [hz9] at hz8; exact Bool.noConfusion hz8) | (exfalso; subst_vars; contradiction)))
  trivial
open PySem PySem.W PySem.Calls PySem.Spec PyProof.Rows
theorem words_Pe_1 : True := by
  k_with "InvEndN" => ((with_reducible refine stay ?_))
  trivial
theorem ints_one {x y : Int} {t : Tok} (h : y = x) : IntsAre [Value.int x t] [y] := h ▸ .cons _ _ .nil
theorem for_end {g : Heap} {Lf H M : Addr} {h' : Heap} {m' m0 : Str → Option Value} {oH : Obj} {mv : List Value} {val : Int} {t : Tok} {k i : Nat} {news : List (Addr × Obj)} {own : List (Addr × Obj)} {X Y : List Int} {c : Str → Bool} {s₁ : Shared} {tk : Nat}
    (F : Fr g Lf h' m') (N : News g Lf h' ((H, oH) :: (M, W.listOf (mv ++ [Value.int val t]).toArray (k + 1)) :: (news ++ own))) (hI : IntsAre mv X) (hl : mv.length ≤ i) (e : Y = X ++ [val]) (hs : ∀ z, c z = false → m' z = m0 z) :
    InvEndN g Lf (fun m_1 nx => (∃ mv k, nx = (M, W.listOf mv.toArray k) :: news ∧ IntsAre mv Y ∧ mv.length ≤ i + 1) ∧ ∀ z, c z = false → m_1 z = m0 z) own (M :: news.map (·.1)) s₁ { s₁ with heap := h', toks := tk } :=
  InvEndN.intro F N (nx := (M, W.listOf (mv ++ [Value.int val t]).toArray (k + 1)) :: news) ⟨⟨mv ++ [Value.int val t], k + 1, rfl, e ▸ hI.append (.cons _ _ .nil), by rw [List.length_append]; exact Nat.add_le_add_right hl 1⟩, hs⟩ rfl (fun _ hp => .tail _ (by
    rcases List.mem_cons.mp hp with h | h
    · exact h ▸ .head _
    · exact .tail _ (List.mem_append_left _ h))) (fun _ hp => .tail _ (.tail _ (List.mem_append_right _ hp)))
theorem turn11 {ns : List Int} {one other x : Int} (h1 : hinderI ns x other = 1) (h2 : hinderI ns x one = 1) : turnF ns one other x = Builtin.bitXor (Builtin.bitXor x one) other := by unfold turnF; rw [if_pos h2, if_pos h1]
theorem turn10 {ns : List Int} {one other x : Int} (h1 : hinderI ns x other = 1) (h2 : hinderI ns x one ≠ 1) : turnF ns one other x = Builtin.bitXor x one := by unfold turnF; rw [if_neg h2, if_pos h1]
theorem turn01 {ns : List Int} {one other x : Int} (h1 : hinderI ns x other ≠ 1) (h2 : hinderI ns x one = 1) : turnF ns one other x = Builtin.bitXor x other := by unfold turnF; rw [if_pos h2, if_neg h1]
theorem turn00 {ns : List Int} {one other x : Int} (h1 : hinderI ns x other ≠ 1) (h2 : hinderI ns x one ≠ 1) : turnF ns one other x = x := by unfold turnF; rw [if_neg h2, if_neg h1]
theorem moved_snoc {ns : List Int} {one other x : Int} {l : List Int} : movedF ns one other (l ++ [x]) = movedF ns one other l ++ (if x = other then [] else [turnF ns one other x]) := by
  unfold movedF
  rw [List.filter_append, List.map_append]
  congr 1
  by_cases h : x = other
  · rw [if_pos h, List.filter_cons_of_neg (by simp [h])]; rfl
  · rw [if_neg h, List.filter_cons_of_pos (by simp [h])]; rfl
section
variable {w : World} {A₀ : Around} {s : Shared} {base h₀ g : Heap} {outer : List Env} {L L' H P A l T TN M : Addr} {m0 m mg mb : Str → Option Value} {p : Program} {loose : List Str} {mean : ExcName → Option Value}
  {dp un : Nat} {gd : Option (List Code)} {cn : Str} {cs : Scope} {a : Addr} {ccd : Value} {cl : List (Str × Addr)} {st : List Stmt} {sc : Scope} {Q : Flow → Shared → Prop} {vs hv av pv vp : List Value} {ns rs al ptn : List Int} {one other : Int} {t1 to : Tok} {kh ka kp kq : Nat} {oc o2 oT oA oP oN : Obj}
theorem words_Pe_2 : True := by
  k_with "exec For Name Name cons nil" => ((k_here; (rename Fr _ _ _ _ => lFq9); (with_unfolding_all refine' For_turns lFq9 ?_); k_whole))
  k_with "call ref" => ((k_here; k_dflt ( (show wpAny _ _ (call (Value.ref 143) _) _ _ _); (rename (∀ x y : Int, _ → _ → _) => hxb9); (refine' use_spec ?FW7 ?NW7 (spec_hinder (vs := vs) (ns := ns) ?BW7 ?F1W7 ?XW7 ?TW7 ?hkW7 ?dW7 ?uW7 ?hlW7 ?hiW7 ?hfW7 ?hxW7 ?hyW7 ?hxyW7) ?_); (case FW7 => k_asm); (case NW7 => k_asm); (case BW7 => k_asm); (case F1W7 => k_asm); (case XW7 => k_asm); (case TW7 => k_asm); (case hkW7 => rfl); (case dW7 => ktr_room); (case uW7 => ktr_units); (case hlW7 => exact Heap.IsList.at (h := g) (by assumption) (fun o e => Fr.keep (by assumption) _ _ e)); (case hiW7 => assumption); (case hfW7 => assumption); (case hxW7 => assumption); (case hyW7 => assumption); (case hxyW7 => exact hxb9 _ _ (by assumption) (by assumption)); (intro vq9 hq9 tkq9 Fq9 Nq9 Eq9 qq9; (obtain ⟨tv, qq9⟩ := qq9); subst qq9); (try k_sweep))))
  trivial
set_option maxHeartbeats 4000000 in
theorem pair_forG (he : elseSeg 3 1 = some (st, sc)) {rst : List (Addr × Obj)} (B : Below (ktrTop dp un gd cn cs L a ccd cl outer) base (envX cn cs L a ccd cl :: outer) g) (X : (Mine.hd.heap_1 w.params).In g) (T' : Top p loose mean mg mb g) (hd1 : dp + 2 < recursionLimit) (hu : un + 100 < cLine)
    (hl : g.IsList l vs.toArray) (hi : IntsAre vs ns) (hns : ns.length < 100) (hI : IntsAre hv rs) (h4 : rs.length ≤ 4) (d2 : o2.data = .cell (some (.ref l))) (dc : oc.data = .cell (some (.int one t1)))
    (hb : ∀ x ∈ rs, 0 ≤ x ∧ x < (ns.length : Int)) (hone : 0 ≤ one ∧ one < (ns.length : Int)) (hoth : 0 ≤ other ∧ other < (ns.length : Int)) (hxb : ∀ x y : Int, 0 ≤ x ∧ x < (ns.length : Int) → 0 ≤ y ∧ y < (ns.length : Int) → 0 ≤ Builtin.bitXor x y ∧ Builtin.bitXor x y < (ns.length : Int))
    (hm1 : m (Str.ofString "ahead") = some (.ref H)) (hm2 : m (Str.ofString "moved") = some (.ref M)) (hm3 : m (Str.ofString "other") = some (.int other to))
    (nHM : @Ne Nat H M) (nM2 : @Ne Nat (L' + 1 + 1) M) (nM1 : @Ne Nat (L' + 1) M) (nMr : ∀ q ∈ rst, q.1 ≠ M) (nH : ∀ q ∈ (L' + 1 + 1, oc) :: (L' + 1, o2) :: rst, q.1 ≠ H)
    (F : Fr g L' s.heap m) (N : News g L' s.heap ((H, W.listOf hv.toArray kh) :: (M, W.listOf #[] 0) :: (L' + 1 + 1, oc) :: (L' + 1, o2) :: rst))
    (kk : ∀ (vm : List Value) (k' : Nat) (h' : Heap) (tk : Nat) (m' : Str → Option Value), IntsAre vm (movedF ns one other rs) → (∀ z, [Str.ofString "vector", Str.ofString "turned"].contains z = false → m' z = m z) → Fr g L' h' m' →
      News g L' h' ((H, W.listOf hv.toArray kh) :: (M, W.listOf vm.toArray k') :: (L' + 1 + 1, oc) :: (L' + 1, o2) :: rst) → Q .next { s with heap := h', toks := tk }) :
    wpAny (model Challenge.rw_sn0075_01.row.prog w) ((ktrTop dp un gd cn cs L a ccd cl outer).deeper (envOfC (Str.ofString "_law_paired") sc L' 148 (.ref 147))) (execs st (envOfC (Str.ofString "_law_paired") sc L' 148 (.ref 147))) Q (fun _ _ => False) s := by
  revert X; k_fill; intro X
  have he2 : elseSeg 3 1 = some ([_], _) := rfl
  rw [he] at he2
  cases he2
  clear he
  have hvl := hI.length
  rw [known hm1, known hm2, known hm3] at F
  (iterate 3 (first | (dsimp only; walk1) | walk1))
  (rename Fr _ _ _ _ => kF); (rename News _ _ _ _ => kN)
  with_unfolding_all refine' iter_turnsL (m₀ := ?m0) (fun i m news => (∃ mv k, news = (M, W.listOf mv.toArray k) :: ((L' + 1 + 1, oc) :: (L' + 1, o2) :: rst) ∧ IntsAre mv (movedF ns one other (rs.take i)) ∧ mv.length ≤ i) ∧ ∀ z, [Str.ofString "vector", Str.ofString "turned"].contains z = false → m z = ?m0 z) ?h1 kF kN rfl rfl ?h3 ?h2 ?turn ?done
  case h1 => rfl
  case h3 =>
    intro p hp
    rcases List.mem_cons.mp hp with rfl | hp
    · exact nHM.symm
    · exact nH p hp
  case h2 => exact ⟨⟨[], 0, rfl, by rw [List.take_zero]; exact .nil, Nat.le_refl _⟩, fun _ _ => rfl⟩
  case turn =>
    rintro i v m₁ news₁ h tk own hv hadr hoff ⟨⟨mv, k, rfl, hIm, hml⟩, hs⟩ F1 N1
    rw [forget0 hs] at F1
    clear hs hadr kF kN
    have hi1 : i < rs.length := by rw [← hvl]; exact (List.getElem?_eq_some_iff.mp hv).1
    obtain ⟨tn, hx⟩ := hI.get i rs[i] (List.getElem?_eq_getElem hi1)
    rw [hv] at hx
    cases hx
    have hbx := hb _ (List.getElem_mem hi1)
    have htk : rs.take (i + 1) = rs.take i ++ [rs[i]] := List.take_succ_eq_append_getElem hi1
    have hmv4 : mv.length ≤ 4 := by omega
    generalize rs[i] = x at *
    have hoff1 : ∀ q ∈ own, q.1 ≠ M := hoff.ne (.head _)
    have hend : ∀ {q : Addr × Obj}, q ∈ rst ++ own → q.1 ≠ M := fun hq => (List.mem_append.mp hq).elim (nMr _) (hoff1 _)
    simp only [List.cons_append] at N1
    clear hoff hoff1 nMr nH hb hI h4 hv hi1 hvl
    generalize hr9 : rst ++ own = r9 at *
    have h9 : OwnOff r9 [M] := fun q hq b hb => by rw [List.mem_singleton.mp hb]; exact hend hq
    clear hend
    repeat (first | (dsimp only; walk1) | walk1)
    · (rename Fr _ _ _ _ => kF); (rename News _ _ _ _ => kN); rw [← hr9] at kN
      rw [List.push_toArray] at kN
      exact for_end (news := (L' + 1 + 1, oc) :: (L' + 1, o2) :: rst) kF kN hIm hml (by rw [htk, moved_snoc, if_neg (by assumption), turn11 (by assumption) (by assumption)]) (by (k_extra "mine:same"))
    · repeat (first | (dsimp only; walk1) | walk1)
      (rename Fr _ _ _ _ => kF); (rename News _ _ _ _ => kN); rw [← hr9] at kN
      rw [List.push_toArray] at kN
      exact for_end (news := (L' + 1 + 1, oc) :: (L' + 1, o2) :: rst) kF kN hIm hml (by rw [htk, moved_snoc, if_neg (by assumption), turn10 (by assumption) (by assumption)]) (by (k_extra "mine:same"))
    · repeat (first | (dsimp only; walk1) | walk1)
      · (rename Fr _ _ _ _ => kF); (rename News _ _ _ _ => kN); rw [← hr9] at kN
        rw [List.push_toArray] at kN
        exact for_end (news := (L' + 1 + 1, oc) :: (L' + 1, o2) :: rst) kF kN hIm hml (by rw [htk, moved_snoc, if_neg (by assumption), turn01 (by assumption) (by assumption)]) (by (k_extra "mine:same"))
      · repeat (first | (dsimp only; walk1) | walk1)
        (rename Fr _ _ _ _ => kF); (rename News _ _ _ _ => kN); rw [← hr9] at kN
        rw [List.push_toArray] at kN
        exact for_end (news := (L' + 1 + 1, oc) :: (L' + 1, o2) :: rst) kF kN hIm hml (by rw [htk, moved_snoc, if_neg (by assumption), turn00 (by assumption) (by assumption)]) (by (k_extra "mine:same"))
    · repeat (first | (dsimp only; walk1) | walk1)
      (rename Fr _ _ _ _ => kF); (rename News _ _ _ _ => kN); rw [← hr9] at kN
      refine InvEndN.intro kF kN ⟨⟨mv, k, rfl, (by rw [htk, moved_snoc, if_pos (by assumption), List.append_nil]; exact hIm), Nat.le_succ_of_le hml⟩, ?c⟩ rfl (fun p hp => by
        exact sub_app (by (k_extra "mine:sub")) hp) (fun p hp => .tail _ (.tail _ (.tail _ (.tail _ (List.mem_append_right _ hp)))))
      case c => (k_extra "mine:same")
  case done =>
    rintro m₁ news₁ h tk ⟨⟨mv, k, rfl, hIm, hml⟩, hs⟩ F1 N1
    rw [List.take_of_length_le (Nat.le_of_eq hvl.symm)] at hIm
    clear kF kN
    refine wpAny_execs_nil (kk mv k _ _ m₁ hIm (fun z hz => (hs z hz).trans ?_) F1 N1)
    dsimp only
    split
    · rename_i h; subst h; exact hm1.symm
    · split
      · rename_i h; subst h; exact hm2.symm
      · split
        · rename_i h; subst h; exact hm3.symm
        · rfl
theorem pair_for (he : elseSeg 3 1 = some (st, sc)) (B : Below (ktrTop dp un gd cn cs L a ccd cl outer) base (envX cn cs L a ccd cl :: outer) g) (X : (Mine.hd.heap_1 w.params).In g) (T' : Top p loose mean mg mb g) (hd1 : dp + 2 < recursionLimit) (hu : un + 100 < cLine)
    (hl : g.IsList l vs.toArray) (hi : IntsAre vs ns) (hns : ns.length < 100) (hI : IntsAre hv rs) (h4 : rs.length ≤ 4) (d2 : o2.data = .cell (some (.ref l))) (dc : oc.data = .cell (some (.int one t1)))
    (hb : ∀ x ∈ rs, 0 ≤ x ∧ x < (ns.length : Int)) (hone : 0 ≤ one ∧ one < (ns.length : Int)) (hoth : 0 ≤ other ∧ other < (ns.length : Int)) (hxb : ∀ x y : Int, 0 ≤ x ∧ x < (ns.length : Int) → 0 ≤ y ∧ y < (ns.length : Int) → 0 ≤ Builtin.bitXor x y ∧ Builtin.bitXor x y < (ns.length : Int))
    (hm1 : m (Str.ofString "ahead") = some (.ref H)) (hm2 : m (Str.ofString "moved") = some (.ref M)) (hm3 : m (Str.ofString "other") = some (.int other to))
    (hM : @LT.lt Nat _ H M ∧ @LT.lt Nat _ A M ∧ @LT.lt Nat _ P M ∧ @LT.lt Nat _ TN M ∧ @LT.lt Nat _ T M ∧ @LT.lt Nat _ (L' + 1 + 1) M ∧ @LT.lt Nat _ (L' + 1) M) (hH : @Ne Nat TN H ∧ @Ne Nat A H ∧ @Ne Nat P H ∧ @Ne Nat T H ∧ @Ne Nat (L' + 1 + 1) H ∧ @Ne Nat (L' + 1) H)
    (F : Fr g L' s.heap m) (N : News g L' s.heap [(H, W.listOf hv.toArray kh), (M, W.listOf #[] 0), (TN, oN), (A, oA), (P, oP), (T, oT), (L' + 1 + 1, oc), (L' + 1, o2)])
    (kk : ∀ (vm : List Value) (k' : Nat) (h' : Heap) (tk : Nat) (m' : Str → Option Value), IntsAre vm (movedF ns one other rs) → (∀ z, [Str.ofString "vector", Str.ofString "turned"].contains z = false → m' z = m z) → Fr g L' h' m' →
      News g L' h' [(H, W.listOf hv.toArray kh), (M, W.listOf vm.toArray k'), (TN, oN), (A, oA), (P, oP), (T, oT), (L' + 1 + 1, oc), (L' + 1, o2)] → Q .next { s with heap := h', toks := tk }) :
    wpAny (model Challenge.rw_sn0075_01.row.prog w) ((ktrTop dp un gd cn cs L a ccd cl outer).deeper (envOfC (Str.ofString "_law_paired") sc L' 148 (.ref 147))) (execs st (envOfC (Str.ofString "_law_paired") sc L' 148 (.ref 147))) Q (fun _ _ => False) s := by
  obtain ⟨a1, a2, a3, a4, a5, a6, a7⟩ := hM
  obtain ⟨b1, b2, b3, b4, b5, b6⟩ := hH
  refine pair_forG (kh := kh) (rst := [(TN, oN), (A, oA), (P, oP), (T, oT)]) he B X T' hd1 hu hl hi hns hI h4 d2 dc hb hone hoth hxb hm1 hm2 hm3 (Nat.ne_of_lt a1) (Nat.ne_of_lt a6) (Nat.ne_of_lt a7) (fun q hq => ?_) (fun q hq => ?_) F (fun q hq => N q (by
    exact sub_app (by (k_extra "mine:sub")) hq)) fun vm k' h' tk m' h1 h2 F1 N1 => kk vm k' h' tk m' h1 h2 F1 (fun q hq => N1 q (by
    exact sub_app (by (k_extra "mine:sub")) hq))
  · simp only [List.mem_cons, List.not_mem_nil, or_false] at hq
    rcases hq with rfl | rfl | rfl | rfl
    · exact Nat.ne_of_lt a4
    · exact Nat.ne_of_lt a2
    · exact Nat.ne_of_lt a3
    · exact Nat.ne_of_lt a5
  · simp only [List.mem_cons, List.not_mem_nil, or_false] at hq
    rcases hq with rfl | rfl | rfl | rfl | rfl | rfl
    · exact b5
    · exact b6
    · exact b1
    · exact b2
    · exact b3
    · exact b4
end
end PartPe
section PartPf
theorem base_Pf : True := by
  w_top off
  k_with_none
  k_with "mine:step" => ((first | (k_unfold; (try dsimp only)) | (k_end; wrow_close) | walk1 | (dsimp only; walk1) | (leave1; walk_say "STEP leave1"; try dsimp only) | fail "no step"))
  k_with "storeName" => ((k_here; k_dflt (first | (refine' storeI ?FW7 ?NW7 ?_ ?aW7 ?bW7; (case FW7 => k_asm); (case NW7 => k_asm); (case aW7 => rfl); (case bW7 => rfl); k_whole; intro hq9 tq9 tkq9 Fq9 Nq9; (try k_sweep)) | (refine' storeU ?FW7 ?NW7 ?_ ?aW7 ?bW7; (case FW7 => k_asm); (case NW7 => k_asm); (case aW7 => rfl); (case bW7 => rfl); k_whole; intro hq9 tkq9 Fq9 Nq9; (try k_sweep)))))
  k_with "mine:pj" => (((rename (_ ∧ _) => z); first | exact z.1 | exact Zs z.1 | exact Zl z.1 | exact Zg z.1 | exact z.2 | exact Zs z.2 | exact Zl z.2 | exact Zg z.2 | exact z.2.1 | exact Zs z.2.1 | exact Zl z.2.1 | exact Zg z.2.1 | exact z.2.2 | exact Zs z.2.2 | exact Zl z.2.2 | exact Zg z.2.2 | exact z.2.2.1 | exact Zs z.2.2.1 | exact Zl z.2.2.1 | exact Zg z.2.2.1 | exact z.2.2.2 | exact Zs z.2.2.2 | exact Zl z.2.2.2 | exact Zg z.2.2.2 | exact z.2.2.2.1 | exact Zs z.2.2.2.1 | exact Zl z.2.2.2.1 | exact Zg z.2.2.2.1 | exact z.2.2.2.2 | exact Zs z.2.2.2.2 | exact Zl z.2.2.2.2 | exact Zg z.2.2.2.2 | exact z.2.2.2.2.1 | exact Zs z.2.2.2.2.1 | exact Zl z.2.2.2.2.1 | exact Zg z.2.2.2.2.1 | exact z.2.2.2.2.2 | exact Zs z.2.2.2.2.2 | exact Zl z.2.2.2.2.2 | exact Zg z.2.2.2.2.2 | exact z.2.2.2.2.2.1 | exact Zs z.2.2.2.2.2.1 | exact Zl z.2.2.2.2.2.1 | exact Zg z.2.2.2.2.2.1 | exact z.2.2.2.2.2.2 | exact Zs z.2.2.2.2.2.2 | exact Zl z.2.2.2.2.2.2 | exact Zg z.2.2.2.2.2.2 | exact z.2.2.2.2.2.2.1 | exact Zs z.2.2.2.2.2.2.1 | exact Zl z.2.2.2.2.2.2.1 | exact Zg z.2.2.2.2.2.2.1 | exact z.2.2.2.2.2.2.2 | exact Zs z.2.2.2.2.2.2.2 | exact Zl z.2.2.2.2.2.2.2 | exact Zg z.2.2.2.2.2.2.2 | exact z.2.2.2.2.2.2.2.1 | exact Zs z.2.2.2.2.2.2.2.1 | exact Zl z.2.2.2.2.2.2.2.1 | exact Zg z.2.2.2.2.2.2.2.1 | exact z.2.2.2.2.2.2.2.2 | exact Zs z.2.2.2.2.2.2.2.2 | exact Zl z.2.2.2.2.2.2.2.2 | exact Zg z.2.2.2.2.2.2.2.2 | exact z.2.2.2.2.2.2.2.2.1 | exact Zs z.2.2.2.2.2.2.2.2.1 | exact Zl z.2.2.2.2.2.2.2.2.1 | exact Zg z.2.2.2.2.2.2.2.2.1 | exact z.2.2.2.2.2.2.2.2.2.1 | exact Zs z.2.2.2.2.2.2.2.2.2.1 | exact Zl z.2.2.2.2.2.2.2.2.2.1 | exact Zg z.2.2.2.2.2.2.2.2.2.1 | exact z.2.2.2.2.2.2.2.2.2.2.1 | exact Zs z.2.2.2.2.2.2.2.2.2.2.1 | exact Zl z.2.2.2.2.2.2.2.2.2.2.1 | exact Zg z.2.2.2.2.2.2.2.2.2.2.1 | exact z.2.2.2.2.2.2.2.2.2.2.2.1 | exact Zs z.2.2.2.2.2.2.2.2.2.2.2.1 | exact Zl z.2.2.2.2.2.2.2.2.2.2.2.1 | exact Zg z.2.2.2.2.2.2.2.2.2.2.2.1 | exact z.2.2.2.2.2.2.2.2.2.2.2.2.1 | exact Zs z.2.2.2.2.2.2.2.2.2.2.2.2.1 | exact Zl z.2.2.2.2.2.2.2.2.2.2.2.2.1 | exact Zg z.2.2.2.2.2.2.2.2.2.2.2.2.1 | exact z.2.2.2.2.2.2.2.2.2.2.2.2.2.1 | exact Zs z.2.2.2.2.2.2.2.2.2.2.2.2.2.1 | exact Zl z.2.2.2.2.2.2.2.2.2.2.2.2.2.1 | exact Zg z.2.2.2.2.2.2.2.2.2.2.2.2.2.1 | (clear z; (k_extra "mine:pj"))))
  k_with "mine:ne" => (first | (with_reducible assumption) | exact Ne.symm (by with_reducible assumption) | exact ne_lt (by with_reducible assumption) | exact ne_gt (by with_reducible assumption) | exact ne_lt (lt_led (by with_reducible assumption) (by k_mem)) | exact ne_gt (lt_led (by with_reducible assumption) (by k_mem)) | ((try dsimp only); with_reducible (k_extra "mine:pj")) | assumption | exact Nat.ne_of_lt (Nat.lt_succ_self _) | exact Nat.ne_of_gt (Nat.lt_succ_self _) | (walk_say "K_NE OMEGA"; refine neN ?_; (try dsimp only); omega))
  k_with "mine:nes" => (first | (refine And.intro ?_ ?_ <;> (k_extra "mine:nes")) | k_ne)
  k_with "mine:in" => (first | (with_reducible exact List.mem_cons_self) | (with_reducible assumption) | ((with_reducible refine List.mem_cons_of_mem _ ?_); (k_extra "mine:in")) | exact List.mem_cons_self | (refine List.mem_cons_of_mem _ ?_; (k_extra "mine:in")) | (refine List.mem_append_left _ ?_; (k_extra "mine:in")) | (refine List.mem_append_right _ ?_; (k_extra "mine:in")))
  k_with "mine:sub" => (first | (with_reducible exact sub_id) | (with_reducible exact sub_nil) | ((with_reducible refine sub_cons ?haW7 ?hbW7); (case haW7 => (k_extra "mine:in")); (case hbW7 => (k_extra "mine:sub"))) | ((with_reducible refine sub_both ?haW7 ?hbW7); (case haW7 => (k_extra "mine:sub")); (case hbW7 => (k_extra "mine:sub"))) | ((with_reducible refine sub_skip ?_); (k_extra "mine:sub")) | ((with_reducible refine sub_right ?_); (k_extra "mine:sub")) | ((with_reducible refine sub_left ?_); (k_extra "mine:sub")) | (simp only [List.nil_append, List.cons_append]; (k_extra "mine:sub")))
  k_with "mine:keys" => (first | (k_dflt (exact keys_of rfl rfl)) | (walk_say "K_KEYS LONG"; repeat (first | exact True.intro | refine And.intro ⟨_, _, rfl, rfl⟩ ?_)))
  k_with "mine:enter0" => ((refine' enter0 ?k1W7 ?k2W7 ?k3W7 ?k4W7 ?kKW7 ?k8W7 ?k6W7 ?k7W7 ?k9W7 ?kBW7 ?_ ?c2W7 ?c3W7 ?c4W7 ?c5W7; (case kKW7 => assumption); (case k1W7 => k_asm); (case k2W7 => k_asm); (case k3W7 => k_asm); (case k4W7 => k_asm); (case k6W7 => k_is); (case k7W7 => k_is); (case k8W7 => ktr_room); (case k9W7 => exact BindsTo.of_eq rfl); (case c5W7 => decide); (case kBW7 => exact locs rfl); (case c2W7 => exact rfl); (case c3W7 => exact rfl); (case c4W7 => exact rfl); k_whole; intro Lq9 hq9 tkq9 Fq9 Nq9 Bq9 Xq9 Tq9; (try dsimp only); (try k_fold)))
  k_with "mine:ret" => (((all_goals (try dsimp only)); (all_goals (try k_unfold)); (all_goals (try dsimp only))))
  k_with "mine:same" => (first | exact fun _ _ => rfl | exact fun _ _ _ => rfl | exact same_fg | exact same_fgN | (refine same_upY ?_; (k_extra "mine:same")) | (refine same_up (by rfl) ?_; (k_extra "mine:same")) | (refine same_upN (by rfl) ?_; (k_extra "mine:same")) | (intros; (try dsimp only [forget, up]); (repeat' split); all_goals first | rfl | (exfalso; subst_vars; (rename (List.contains _ _ = false) => hz9); (revert hz9); decide) | (exfalso; (rename (List.contains _ _ = false) => hz9); (rename (List.contains _ _ = true) => hz8); rw [hz9] at hz8; exact Bool.noConfusion hz8) | (exfalso; subst_vars; contradiction)))
  trivial
open PySem PySem.W PySem.Calls PySem.Spec PyProof.Rows
theorem fr_same {g h : Heap} {L : Addr} {f m : Str → Option Value} (e : ∀ z, f z = m z) (F : Fr g L h f) : Fr g L h m := (funext e) ▸ F
section
variable {w : World} {A₀ : Around} {s : Shared} {base h₀ g : Heap} {outer : List Env} {L L' H P A l T PL : Addr} {m0 m mg mb : Str → Option Value} {p : Program} {loose : List Str} {mean : ExcName → Option Value}
  {dp un : Nat} {gd : Option (List Code)} {cn : Str} {cs : Scope} {a : Addr} {ccd : Value} {cl : List (Str × Addr)} {st : List Stmt} {sc : Scope} {Q : Flow → Shared → Prop} {vs hv av pv vp : List Value} {ns rs al ptn : List Int} {one : Int} {t1 : Tok} {kh ka kp kq : Nat} {oc o2 oT : Obj}
theorem words_Pf_1 : True := by
  k_with "compareOp Eq ref ref" => ((k_here; (with_reducible show wpAny _ _ (compareOp CmpOp.Eq (Value.ref _) (Value.ref _)) _ _ _); k_dflt ((rename News _ _ _ _ => kN9); (refine' ke_eq_ints (xs := vp) (ys := []) (ns := ptn) (ms := []) ?e1W7 ?e2W7 ?e3W7 ?e4W7 ?e5W7 ?_); (case e1W7 => exact ledger_list kN9 (by k_mem)); (case e2W7 => exact ledger_list (vs := []) kN9 (by k_mem)); (case e3W7 => assumption); (case e4W7 => exact IntsAre.nil); (case e5W7 => ktr_units))))
  trivial
set_option maxHeartbeats 4000000 in
/-- the else part as a whole: the loop's turn with a pair -/
theorem pair_if (he : pairSeg 2 1 = some (st, sc)) (B : Below (ktrTop dp un gd cn cs L a ccd cl outer) base (envX cn cs L a ccd cl :: outer) g) (X : (Mine.hd.heap_1 w.params).In g) (T' : Top p loose mean mg mb g) (hd1 : dp + 2 < recursionLimit) (hu : un + 100 < cLine)
    (hIa : IntsAre av al) (hIp : IntsAre vp ptn) (ha4 : al.length ≤ 4) (dc : oc.data = .cell (some (.int one t1)))
    (hm2 : m (Str.ofString "partners") = some (.ref PL)) (hm3 : m (Str.ofString "alone") = some (.ref A))
    (hA : @Ne Nat A PL ∧ @Ne Nat A H ∧ @Ne Nat A P ∧ @Ne Nat A T ∧ @Ne Nat A (L' + 1 + 1) ∧ @Ne Nat A (L' + 1))
    (F : Fr g L' s.heap m) (N : News g L' s.heap [(PL, W.listOf vp.toArray kq), (H, W.listOf hv.toArray kh), (A, W.listOf av.toArray ka), (P, W.listOf pv.toArray kp), (T, oT), (L' + 1 + 1, oc), (L' + 1, o2)])
    (k1 : ptn = [] → ∀ (k' : Nat) (h' : Heap) (tk : Nat) (m' : Str → Option Value), (∀ z, m' z = m z) → Fr g L' h' m' →
      News g L' h' [(H, W.listOf hv.toArray kh), (A, W.listOf (av ++ [Value.int one t1]).toArray k'), (P, W.listOf pv.toArray kp), (T, oT), (L' + 1 + 1, oc), (L' + 1, o2)] → Q .next { s with heap := h', toks := tk })
    (k2 : ptn ≠ [] → ∀ (h' : Heap) (tk : Nat) (st' : List Stmt), elseSeg 0 5 = some (st', sc) → Fr g L' h' m →
      News g L' h' [(PL, W.listOf vp.toArray kq), (H, W.listOf hv.toArray kh), (A, W.listOf av.toArray ka), (P, W.listOf pv.toArray kp), (T, oT), (L' + 1 + 1, oc), (L' + 1, o2)] →
      wpAny (model Challenge.rw_sn0075_01.row.prog w) ((ktrTop dp un gd cn cs L a ccd cl outer).deeper (envOfC (Str.ofString "_law_paired") sc L' 148 (.ref 147))) (execs st' (envOfC (Str.ofString "_law_paired") sc L' 148 (.ref 147))) Q (fun _ _ => False) { s with heap := h', toks := tk }) :
    wpAny (model Challenge.rw_sn0075_01.row.prog w) ((ktrTop dp un gd cn cs L a ccd cl outer).deeper (envOfC (Str.ofString "_law_paired") sc L' 148 (.ref 147))) (execs st (envOfC (Str.ofString "_law_paired") sc L' 148 (.ref 147))) Q (fun _ _ => False) s := by
  revert X; k_fill; intro X
  have he2 : pairSeg 2 1 = some ([_], _) := rfl
  have he3 : elseSeg 0 5 = some ([_, _, _, _, _], _) := rfl
  rw [he] at he2
  cases he2
  clear he
  have hml := known hm2
  rw [hml, known hm3] at F
  have hal := hIa.length
  have hpl := hIp.length
  repeat (first | (dsimp only; walk1) | walk1)
  · (rename Fr _ _ _ _ => kF); (rename News _ _ _ _ => kN); (rename (decide (ptn = []) = true) => hz9)
    rw [List.push_toArray] at kN
    refine' k1 (of_decide_eq_true hz9) _ _ _ _ ?y1 kF (fun p hp => kN p (.tail _ (.tail _ hp)))
    case y1 =>
      intro z
      dsimp only
      split
      · rename_i h; subst h; exact hm2.symm
      · split
        · rename_i h; subst h; exact hm3.symm
        · rfl
  · (rename Fr _ _ _ _ => kF); (rename News _ _ _ _ => kN); (rename (decide (ptn = []) = false) => hz9)
    refine wpAny_mono (k2 (of_decide_eq_false hz9) _ _ _ he3 (fr_same ?z1 kF) (fun p hp => kN p (.tail _ hp))) ?z3 (fun _ _ e => e)
    case z1 =>
      intro z
      dsimp only
      split
      · rename_i h; subst h; exact hm2.symm
      · split
        · rename_i h; subst h; exact hm3.symm
        · rfl
    case z3 =>
      intro f s' hq
      cases f with
      | next => exact wpAny_execs_nil hq
      | ret v => exact hq
      | brk => exact hq
      | cont => exact hq
end
end PartPf
section PartPg
theorem base_Pg : True := by
  w_top off
  k_with_none
  k_with "mine:step" => ((first | (k_unfold; (try dsimp only)) | (k_end; wrow_close) | walk1 | (dsimp only; walk1) | (leave1; walk_say "STEP leave1"; try dsimp only) | fail "no step"))
  k_with "storeName" => ((k_here; k_dflt (first | (refine' storeI ?FW7 ?NW7 ?_ ?aW7 ?bW7; (case FW7 => k_asm); (case NW7 => k_asm); (case aW7 => rfl); (case bW7 => rfl); k_whole; intro hq9 tq9 tkq9 Fq9 Nq9; (try k_sweep)) | (refine' storeU ?FW7 ?NW7 ?_ ?aW7 ?bW7; (case FW7 => k_asm); (case NW7 => k_asm); (case aW7 => rfl); (case bW7 => rfl); k_whole; intro hq9 tkq9 Fq9 Nq9; (try k_sweep)))))
  k_with "mine:pj" => (((rename (_ ∧ _) => z); first | exact z.1 | exact Zs z.1 | exact Zl z.1 | exact Zg z.1 | exact z.2 | exact Zs z.2 | exact Zl z.2 | exact Zg z.2 | exact z.2.1 | exact Zs z.2.1 | exact Zl z.2.1 | exact Zg z.2.1 | exact z.2.2 | exact Zs z.2.2 | exact Zl z.2.2 | exact Zg z.2.2 | exact z.2.2.1 | exact Zs z.2.2.1 | exact Zl z.2.2.1 | exact Zg z.2.2.1 | exact z.2.2.2 | exact Zs z.2.2.2 | exact Zl z.2.2.2 | exact Zg z.2.2.2 | exact z.2.2.2.1 | exact Zs z.2.2.2.1 | exact Zl z.2.2.2.1 | exact Zg z.2.2.2.1 | exact z.2.2.2.2 | exact Zs z.2.2.2.2 | exact Zl z.2.2.2.2 | exact Zg z.2.2.2.2 | exact z.2.2.2.2.1 | exact Zs z.2.2.2.2.1 | exact Zl z.2.2.2.2.1 | exact Zg z.2.2.2.2.1 | exact z.2.2.2.2.2 | exact Zs z.2.2.2.2.2 | exact Zl z.2.2.2.2.2 | exact Zg z.2.2.2.2.2 | exact z.2.2.2.2.2.1 | exact Zs z.2.2.2.2.2.1 | exact Zl z.2.2.2.2.2.1 | exact Zg z.2.2.2.2.2.1 | exact z.2.2.2.2.2.2 | exact Zs z.2.2.2.2.2.2 | exact Zl z.2.2.2.2.2.2 | exact Zg z.2.2.2.2.2.2 | exact z.2.2.2.2.2.2.1 | exact Zs z.2.2.2.2.2.2.1 | exact Zl z.2.2.2.2.2.2.1 | exact Zg z.2.2.2.2.2.2.1 | exact z.2.2.2.2.2.2.2 | exact Zs z.2.2.2.2.2.2.2 | exact Zl z.2.2.2.2.2.2.2 | exact Zg z.2.2.2.2.2.2.2 | exact z.2.2.2.2.2.2.2.1 | exact Zs z.2.2.2.2.2.2.2.1 | exact Zl z.2.2.2.2.2.2.2.1 | exact Zg z.2.2.2.2.2.2.2.1 | exact z.2.2.2.2.2.2.2.2 | exact Zs z.2.2.2.2.2.2.2.2 | exact Zl z.2.2.2.2.2.2.2.2 | exact Zg z.2.2.2.2.2.2.2.2 | exact z.2.2.2.2.2.2.2.2.1 | exact Zs z.2.2.2.2.2.2.2.2.1 | exact Zl z.2.2.2.2.2.2.2.2.1 | exact Zg z.2.2.2.2.2.2.2.2.1 | exact z.2.2.2.2.2.2.2.2.2.1 | exact Zs z.2.2.2.2.2.2.2.2.2.1 | exact Zl z.2.2.2.2.2.2.2.2.2.1 | exact Zg z.2.2.2.2.2.2.2.2.2.1 | exact z.2.2.2.2.2.2.2.2.2.2.1 | exact Zs z.2.2.2.2.2.2.2.2.2.2.1 | exact Zl z.2.2.2.2.2.2.2.2.2.2.1 | exact Zg z.2.2.2.2.2.2.2.2.2.2.1 | exact z.2.2.2.2.2.2.2.2.2.2.2.1 | exact Zs z.2.2.2.2.2.2.2.2.2.2.2.1 | exact Zl z.2.2.2.2.2.2.2.2.2.2.2.1 | exact Zg z.2.2.2.2.2.2.2.2.2.2.2.1 | exact z.2.2.2.2.2.2.2.2.2.2.2.2.1 | exact Zs z.2.2.2.2.2.2.2.2.2.2.2.2.1 | exact Zl z.2.2.2.2.2.2.2.2.2.2.2.2.1 | exact Zg z.2.2.2.2.2.2.2.2.2.2.2.2.1 | exact z.2.2.2.2.2.2.2.2.2.2.2.2.2.1 | exact Zs z.2.2.2.2.2.2.2.2.2.2.2.2.2.1 | exact Zl z.2.2.2.2.2.2.2.2.2.2.2.2.2.1 | exact Zg z.2.2.2.2.2.2.2.2.2.2.2.2.2.1 | (clear z; (k_extra "mine:pj"))))
  k_with "mine:ne" => (first | (with_reducible assumption) | exact Ne.symm (by with_reducible assumption) | exact ne_lt (by with_reducible assumption) | exact ne_gt (by with_reducible assumption) | exact ne_lt (lt_led (by with_reducible assumption) (by k_mem)) | exact ne_gt (lt_led (by with_reducible assumption) (by k_mem)) | ((try dsimp only); with_reducible (k_extra "mine:pj")) | assumption | exact Nat.ne_of_lt (Nat.lt_succ_self _) | exact Nat.ne_of_gt (Nat.lt_succ_self _) | (walk_say "K_NE OMEGA"; refine neN ?_; (try dsimp only); omega))
  k_with "mine:nes" => (first | (refine And.intro ?_ ?_ <;> (k_extra "mine:nes")) | k_ne)
  k_with "mine:in" => (first | (with_reducible exact List.mem_cons_self) | (with_reducible assumption) | ((with_reducible refine List.mem_cons_of_mem _ ?_); (k_extra "mine:in")) | exact List.mem_cons_self | (refine List.mem_cons_of_mem _ ?_; (k_extra "mine:in")) | (refine List.mem_append_left _ ?_; (k_extra "mine:in")) | (refine List.mem_append_right _ ?_; (k_extra "mine:in")))
  k_with "mine:sub" => (first | (with_reducible exact sub_id) | (with_reducible exact sub_nil) | ((with_reducible refine sub_cons ?haW7 ?hbW7); (case haW7 => (k_extra "mine:in")); (case hbW7 => (k_extra "mine:sub"))) | ((with_reducible refine sub_both ?haW7 ?hbW7); (case haW7 => (k_extra "mine:sub")); (case hbW7 => (k_extra "mine:sub"))) | ((with_reducible refine sub_skip ?_); (k_extra "mine:sub")) | ((with_reducible refine sub_right ?_); (k_extra "mine:sub")) | ((with_reducible refine sub_left ?_); (k_extra "mine:sub")) | (simp only [List.nil_append, List.cons_append]; (k_extra "mine:sub")))
  k_with "mine:keys" => (first | (k_dflt (exact keys_of rfl rfl)) | (walk_say "K_KEYS LONG"; repeat (first | exact True.intro | refine And.intro ⟨_, _, rfl, rfl⟩ ?_)))
  k_with "mine:enter0" => ((refine' enter0 ?k1W7 ?k2W7 ?k3W7 ?k4W7 ?kKW7 ?k8W7 ?k6W7 ?k7W7 ?k9W7 ?kBW7 ?_ ?c2W7 ?c3W7 ?c4W7 ?c5W7; (case kKW7 => assumption); (case k1W7 => k_asm); (case k2W7 => k_asm); (case k3W7 => k_asm); (case k4W7 => k_asm); (case k6W7 => k_is); (case k7W7 => k_is); (case k8W7 => ktr_room); (case k9W7 => exact BindsTo.of_eq rfl); (case c5W7 => decide); (case kBW7 => exact locs rfl); (case c2W7 => exact rfl); (case c3W7 => exact rfl); (case c4W7 => exact rfl); k_whole; intro Lq9 hq9 tkq9 Fq9 Nq9 Bq9 Xq9 Tq9; (try dsimp only); (try k_fold)))
  k_with "mine:ret" => (((all_goals (try dsimp only)); (all_goals (try k_unfold)); (all_goals (try dsimp only))))
  k_with "mine:same" => (first | exact fun _ _ => rfl | exact fun _ _ _ => rfl | exact same_fg | exact same_fgN | (refine same_upY ?_; (k_extra "mine:same")) | (refine same_up (by rfl) ?_; (k_extra "mine:same")) | (refine same_upN (by rfl) ?_; (k_extra "mine:same")) | (intros; (try dsimp only [forget, up]); (repeat' split); all_goals first | rfl | (exfalso; subst_vars; (rename (List.contains _ _ = false) => hz9); (revert hz9); decide) | (exfalso; (rename (List.contains _ _ = false) => hz9); (rename (List.contains _ _ = true) => hz8); rw [hz9] at hz8; exact Bool.noConfusion hz8) | (exfalso; subst_vars; contradiction)))
  trivial
open PySem PySem.W PySem.Calls PySem.Spec PyProof.Rows
theorem else_cut (i n k : Nat) {st : List Stmt} {sc : Scope} (he : elseSeg 0 5 = some (st, sc)) (h5 : st.length = 5) (hk : i + n = k) (h : k ≤ 5) : elseSeg i n = some ((st.drop i).take n, sc) := by
  unfold elseSeg at he ⊢
  cases hp : pairSeg 2 1 with
  | none => rw [hp] at he; cases he
  | some x =>
    rw [hp] at he
    cases hq : elseOfIf x.1 with
    | none => simp [hq] at he
    | some b =>
      simp only [Option.bind_some, hq, Option.map_some, Option.some.injEq, Prod.mk.injEq, List.drop_zero] at he ⊢
      obtain ⟨e1, e2⟩ := he
      subst e1 e2
      refine ⟨?_, rfl⟩
      rw [List.drop_take, List.take_take]
      congr 1
      omega
theorem elseLen : (elseSeg 0 5).map (fun x => x.1.length) = some 5 := by kernel_rfl
section
variable {w : World} {A₀ : Around} {s : Shared} {base h₀ g : Heap} {outer : List Env} {L L' H P A l T PL M : Addr} {m0 m mg mb : Str → Option Value} {p : Program} {loose : List Str} {mean : ExcName → Option Value}
  {dp un : Nat} {gd : Option (List Code)} {cn : Str} {cs : Scope} {a : Addr} {ccd : Value} {cl : List (Str × Addr)} {st : List Stmt} {sc : Scope} {Q : Flow → Shared → Prop} {news : List (Addr × Obj)}
set_option maxHeartbeats 4000000 in
theorem pair_last (he : elseSeg 4 1 = some (st, sc)) (B : Below (ktrTop dp un gd cn cs L a ccd cl outer) base (envX cn cs L a ccd cl :: outer) g) (X : (Mine.hd.heap_1 w.params).In g) (T' : Top p loose mean mg mb g)
    (hm1 : m (Str.ofString "moved") = some (.ref M)) (F : Fr g L' s.heap m) (N : News g L' s.heap news)
    (kk : ∀ (h' : Heap) (tk : Nat) (m' : Str → Option Value), m' (Str.ofString "ahead") = some (.ref M) → (∀ z, z ≠ Str.ofString "ahead" → m' z = m z) → Fr g L' h' m' → News g L' h' news → Q .next { s with heap := h', toks := tk }) :
    wpAny (model Challenge.rw_sn0075_01.row.prog w) ((ktrTop dp un gd cn cs L a ccd cl outer).deeper (envOfC (Str.ofString "_law_paired") sc L' 148 (.ref 147))) (execs st (envOfC (Str.ofString "_law_paired") sc L' 148 (.ref 147))) Q (fun _ _ => False) s := by
  revert X; k_fill; intro X
  have he2 : elseSeg 4 1 = some ([_], _) := rfl
  rw [he] at he2
  cases he2
  clear he
  rw [known hm1] at F
  repeat (first | (dsimp only; walk1) | walk1)
  (rename Fr _ _ _ _ => kF); (rename News _ _ _ _ => kN)
  refine' kk _ _ _ ?y1 ?y2 kF kN
  case y1 => exact rfl
  case y2 =>
    intro z hz
    (try dsimp only [up])
    rw [if_neg hz]
    split
    · rename_i h; subst h; exact hm1.symm
    · rfl
end
end PartPg
section PartPh
open PySem PySem.W PySem.Calls PySem.Spec PyProof.Rows
theorem cut_at2 {α : Type} (l : List α) (i n k : Nat) (h : i + n = k) : l.drop i = (l.drop i).take n ++ l.drop k := by
  subst h
  rw [← List.drop_drop, List.take_append_drop]
theorem news_perm {g h : Heap} {L : Addr} {a b c d e f i j : Addr × Obj} (N : News g L h [a, b, c, d, e, f, i, j]) : News g L h [c, a, b, d, e, f, i, j] := fun p hp => N p (by
  exact sub_app (by (k_extra "mine:sub")) hp)
section
variable {w : World} {A₀ : Around} {s : Shared} {base h₀ g : Heap} {outer : List Env} {L L' H P A l T PL : Addr} {m0 m mg mb : Str → Option Value} {p : Program} {loose : List Str} {mean : ExcName → Option Value}
  {dp un : Nat} {gd : Option (List Code)} {cn : Str} {cs : Scope} {a : Addr} {ccd : Value} {cl : List (Str × Addr)} {st : List Stmt} {sc : Scope} {Q : Flow → Shared → Prop} {vs hv av pv vp : List Value} {ns rs al ptn : List Int} {one : Int} {t1 : Tok} {kh ka kp kq : Nat} {oc o2 oT oA : Obj}
/-- the else part as a whole -/
theorem pair_else (he : elseSeg 0 5 = some (st, sc)) (B : Below (ktrTop dp un gd cn cs L a ccd cl outer) base (envX cn cs L a ccd cl :: outer) g) (X : (Mine.hd.heap_1 w.params).In g) (T' : Top p loose mean mg mb g) (hd1 : dp + 2 < recursionLimit) (hu : un + 100 < cLine)
    (hl : g.IsList l vs.toArray) (hi : IntsAre vs ns) (hns : ns.length < 100) (hI : IntsAre hv rs) (h4 : rs.length ≤ 4) (hIp : IntsAre vp ptn) (hp0 : 0 < ptn.length) (hp4 : pv.length ≤ 4) (d2 : o2.data = .cell (some (.ref l))) (dc : oc.data = .cell (some (.int one t1)))
    (hb : ∀ x ∈ rs, 0 ≤ x ∧ x < (ns.length : Int)) (hone : 0 ≤ one ∧ one < (ns.length : Int)) (hoth : 0 ≤ ptn.getD 0 0 ∧ ptn.getD 0 0 < (ns.length : Int)) (hxb : ∀ x y : Int, 0 ≤ x ∧ x < (ns.length : Int) → 0 ≤ y ∧ y < (ns.length : Int) → 0 ≤ Builtin.bitXor x y ∧ Builtin.bitXor x y < (ns.length : Int))
    (hm1 : m (Str.ofString "ahead") = some (.ref H)) (hm2 : m (Str.ofString "partners") = some (.ref PL)) (hm4 : m (Str.ofString "pairs") = some (.ref P))
    (hP : @Ne Nat P PL ∧ @Ne Nat P H ∧ @Ne Nat P A ∧ @Ne Nat P T ∧ @Ne Nat P (L' + 1 + 1) ∧ @Ne Nat P (L' + 1)) (hH : @Ne Nat A H ∧ @Ne Nat P H ∧ @Ne Nat T H ∧ @Ne Nat (L' + 1 + 1) H ∧ @Ne Nat (L' + 1) H)
    (F : Fr g L' s.heap m) (N : News g L' s.heap [(PL, W.listOf vp.toArray kq), (H, W.listOf hv.toArray kh), (A, oA), (P, W.listOf pv.toArray kp), (T, oT), (L' + 1 + 1, oc), (L' + 1, o2)])
    (kk : ∀ (M TN : Addr) (t2 : Tok) (vm : List Value) (k' k'' : Nat) (h' : Heap) (tk : Nat) (m' : Str → Option Value), IntsAre vm (movedF ns one (ptn.getD 0 0) rs) → m' (Str.ofString "ahead") = some (.ref M) → m' (Str.ofString "pairs") = m (Str.ofString "pairs") → m' (Str.ofString "alone") = m (Str.ofString "alone") →
      (@LT.lt Nat _ A M ∧ @LT.lt Nat _ P M ∧ @LT.lt Nat _ TN M ∧ @LT.lt Nat _ T M ∧ @LT.lt Nat _ (L' + 1 + 1) M ∧ @LT.lt Nat _ (L' + 1) M) → (@LT.lt Nat _ A TN ∧ @LT.lt Nat _ P TN ∧ @LT.lt Nat _ T TN ∧ @LT.lt Nat _ (L' + 1 + 1) TN ∧ @LT.lt Nat _ (L' + 1) TN) → Fr g L' h' m' →
      News g L' h' [(M, W.listOf vm.toArray k'), (TN, tupObj #[.int one t1, .int (ptn.getD 0 0) t2]), (A, oA), (P, W.listOf (pv ++ [Value.ref TN]).toArray k''), (T, oT), (L' + 1 + 1, oc), (L' + 1, o2)] → Q .next { s with heap := h', toks := tk }) :
    wpAny (model Challenge.rw_sn0075_01.row.prog w) ((ktrTop dp un gd cn cs L a ccd cl outer).deeper (envOfC (Str.ofString "_law_paired") sc L' 148 (.ref 147))) (execs st (envOfC (Str.ofString "_law_paired") sc L' 148 (.ref 147))) Q (fun _ _ => False) s := by
  have h5 : st.length = 5 := by
    have h1 := elseLen
    rw [he] at h1
    exact Option.some.inj h1
  have e4 : st.drop 4 = (st.drop 4).take 1 := (List.take_of_length_le (by rw [List.length_drop, h5]; decide)).symm
  rw [show st = st.drop 0 from rfl, cut_at2 st 0 3 3 rfl]
  refine execs_app (pair_e1 (else_cut 0 3 3 he h5 rfl (by decide)) B X T' hd1 hu hIp hp0 hp4 dc hm2 hm4 hP F N fun M TN t2 k1 h1 tk1 m1 hmv hot hk1 lM lT F1 N1 => ?_)
  dsimp only
  rw [cut_at2 st 3 1 4 rfl]
  refine execs_app (pair_for (else_cut 3 1 4 he h5 rfl (by decide)) B X T' hd1 hu hl hi hns hI h4 d2 dc hb hone hoth hxb ((hk1 _ (by decide) (by decide)).trans hm1) hmv hot lM ⟨Nat.ne_of_gt lT.1, hH.1, hH.2.1, hH.2.2.1, hH.2.2.2.1, hH.2.2.2.2⟩ F1 (news_perm N1) fun vm k' h2 tk2 m2 hIm hk2 F2 N2 => ?_)
  dsimp only
  rw [e4]
  refine pair_last (else_cut 4 1 5 he h5 rfl (by decide)) B X T' ((hk2 _ (by decide)).trans hmv) F2 N2 fun h3 tk3 m3 ha3 hk3 F3 N3 => ?_
  exact kk M TN t2 vm k' k1 h3 tk3 m3 hIm ha3 ((hk3 _ (by decide)).trans ((hk2 _ (by decide)).trans (hk1 _ (by decide) (by decide)))) ((hk3 _ (by decide)).trans ((hk2 _ (by decide)).trans (hk1 _ (by decide) (by decide)))) ⟨lM.2.1, lM.2.2.1, lM.2.2.2.1, lM.2.2.2.2.1, lM.2.2.2.2.2.1, lM.2.2.2.2.2.2⟩ ⟨lT.2.1, lT.2.2.1, lT.2.2.2.1, lT.2.2.2.2.1, lT.2.2.2.2.2⟩ F3 (fun q hq => N3 q (.tail _ hq))
end
end PartPh
section PartPi
open PySem PySem.W PySem.Calls PySem.Spec PyProof.Rows
theorem pair_cut (i n k : Nat) {st : List Stmt} {sc : Scope} (he : pairSeg 0 3 = some (st, sc)) (hk : i + n = k) (h : k ≤ 3) : pairSeg i n = some ((st.drop i).take n, sc) := by
  unfold pairSeg at he ⊢
  cases hp : findDef "_law_paired" Challenge.pw_sn0075_01.main.body with
  | none => rw [hp] at he; cases he
  | some x =>
    rw [hp] at he
    cases hq : bodyOfWhile x.2.1 with
    | none => simp [hq] at he
    | some b =>
      simp only [Option.bind_some, hq, Option.map_some, Option.some.injEq, Prod.mk.injEq, List.drop_zero] at he ⊢
      obtain ⟨e1, e2⟩ := he
      subst e1 e2
      refine ⟨?_, rfl⟩
      rw [List.drop_take, List.take_take]
      congr 1
      omega
theorem pairLen : (pairSeg 0 3).map (fun x => x.1.length) = some 3 := by kernel_rfl
section
variable {w : World} {A₀ : Around} {s : Shared} {base h₀ g : Heap} {outer : List Env} {L L' H P A l T : Addr} {m0 m mg mb : Str → Option Value} {p : Program} {loose : List Str} {mean : ExcName → Option Value}
  {dp un : Nat} {gd : Option (List Code)} {cn : Str} {cs : Scope} {a : Addr} {ccd : Value} {cl : List (Str × Addr)} {st : List Stmt} {sc : Scope} {Q : Flow → Shared → Prop} {vs hv av pv : List Value} {ns hd al : List Int} {kh ka kp : Nat} {oc o2 oT : Obj}
/-- a turn of the loop of _law_paired -/
theorem pair_turn (he : pairSeg 0 3 = some (st, sc)) (B : Below (ktrTop dp un gd cn cs L a ccd cl outer) base (envX cn cs L a ccd cl :: outer) g) (X : (Mine.hd.heap_1 w.params).In g) (T' : Top p loose mean mg mb g) (hd1 : dp + 2 < recursionLimit) (hu : un + 100 < cLine)
    (hl : g.IsList l vs.toArray) (hi : IntsAre vs ns) (hns : ns.length < 100) (hI : IntsAre hv hd) (hIa : IntsAre av al) (hne : 0 < hd.length) (h4 : hd.length ≤ 4) (ha4 : al.length ≤ 4) (hp4 : pv.length ≤ 4) (d2 : o2.data = .cell (some (.ref l))) {xc : Option Value} (dc : oc.data = .cell xc)
    (hb : ∀ x ∈ hd, 0 ≤ x ∧ x < (ns.length : Int)) (hxb : ∀ x y : Int, 0 ≤ x ∧ x < (ns.length : Int) → 0 ≤ y ∧ y < (ns.length : Int) → 0 ≤ Builtin.bitXor x y ∧ Builtin.bitXor x y < (ns.length : Int))
    (hm1 : m (Str.ofString "ahead") = some (.ref H)) (hm3 : m (Str.ofString "alone") = some (.ref A)) (hm4 : m (Str.ofString "pairs") = some (.ref P))
    (hA : @LT.lt Nat _ (L' + 1 + 1) A ∧ @LT.lt Nat _ (L' + 1 + 1) P) (hAP : @Ne Nat A P) (hH : @Ne Nat H A ∧ @Ne Nat H P ∧ @Ne Nat H (L' + 1 + 1) ∧ @Ne Nat H (L' + 1) ∧ @Ne Nat H T) (hT : @Ne Nat T (L' + 1 + 1) ∧ @Ne Nat T A ∧ @Ne Nat T P)
    (F : Fr g L' s.heap m) (N : News g L' s.heap [(H, W.listOf hv.toArray kh), (A, W.listOf av.toArray ka), (P, W.listOf pv.toArray kp), (T, oT), (L' + 1 + 1, oc), (L' + 1, o2)])
    (k1 : ptnF ns hd = [] → ∀ (t : Tok) (oc' : Obj) (k' k'' : Nat) (h' : Heap) (tk : Nat) (m' : Str → Option Value) (xc' : Option Value), oc'.data = .cell xc' → IntsAre hv.dropLast hd.dropLast → m' (Str.ofString "ahead") = some (.ref H) → m' (Str.ofString "alone") = some (.ref A) → m' (Str.ofString "pairs") = some (.ref P) → Fr g L' h' m' →
      News g L' h' [(H, W.listOf hv.dropLast.toArray k''), (A, W.listOf (av ++ [Value.int (hd.getLastD 0) t]).toArray k'), (P, W.listOf pv.toArray kp), (T, oT), (L' + 1 + 1, oc'), (L' + 1, o2)] → Q .next { s with heap := h', toks := tk })
    (k2 : ptnF ns hd ≠ [] → ∀ (M TN : Addr) (t1 t2 : Tok) (oc' : Obj) (vm : List Value) (k' k'' : Nat) (h' : Heap) (tk : Nat) (m' : Str → Option Value) (xc' : Option Value), oc'.data = .cell xc' → IntsAre vm (movedF ns (hd.getLastD 0) ((ptnF ns hd).getD 0 0) hd.dropLast) → m' (Str.ofString "ahead") = some (.ref M) → m' (Str.ofString "alone") = some (.ref A) → m' (Str.ofString "pairs") = some (.ref P) →
      (@LT.lt Nat _ A M ∧ @LT.lt Nat _ P M ∧ @LT.lt Nat _ TN M ∧ @LT.lt Nat _ T M ∧ @LT.lt Nat _ (L' + 1 + 1) M ∧ @LT.lt Nat _ (L' + 1) M) → (@LT.lt Nat _ A TN ∧ @LT.lt Nat _ P TN ∧ @LT.lt Nat _ T TN ∧ @LT.lt Nat _ (L' + 1 + 1) TN ∧ @LT.lt Nat _ (L' + 1) TN) → Fr g L' h' m' →
      News g L' h' [(M, W.listOf vm.toArray k'), (TN, tupObj #[.int (hd.getLastD 0) t1, .int ((ptnF ns hd).getD 0 0) t2]), (A, W.listOf av.toArray ka), (P, W.listOf (pv ++ [Value.ref TN]).toArray k''), (T, oT), (L' + 1 + 1, oc'), (L' + 1, o2)] → Q .next { s with heap := h', toks := tk }) :
    wpAny (model Challenge.rw_sn0075_01.row.prog w) ((ktrTop dp un gd cn cs L a ccd cl outer).deeper (envOfC (Str.ofString "_law_paired") sc L' 148 (.ref 147))) (execs st (envOfC (Str.ofString "_law_paired") sc L' 148 (.ref 147))) Q (fun _ _ => False) s := by
  have h3 : st.length = 3 := by
    have h1 := pairLen
    rw [he] at h1
    exact Option.some.inj h1
  have e2 : st.drop 2 = (st.drop 2).take 1 := (List.take_of_length_le (by rw [List.length_drop, h3]; decide)).symm
  have hone := hb _ (last_mem hne)
  have hrest : ∀ x, x ∈ hd.dropLast → 0 ≤ x ∧ x < (ns.length : Int) := fun x hx => hb x ((List.dropLast_sublist _).subset hx)
  have hr4 : hd.dropLast.length ≤ 4 := by rw [List.length_dropLast]; exact Nat.le_trans (Nat.sub_le _ _) h4
  have c1 : L' + 1 < A := Nat.lt_of_succ_lt hA.1
  have c2 : L' + 1 < P := Nat.lt_of_succ_lt hA.2
  rw [show st = st.drop 0 from rfl, cut_at2 st 0 2 2 rfl]
  refine execs_app (pair_one (pair_cut 0 2 2 he rfl (by decide)) B X T' hd1 hu hl hi hns hI hne h4 d2 hb hxb hm1 hA hH hT.1 F N dc fun PL vp oc' t h1 tk1 m1 hIp hIr dc' hmp hk1 hAP' F1 N1 => ?_)
  dsimp only
  rw [e2]
  refine pair_if (kq := vp.length) (pair_cut 2 1 3 he rfl (by decide)) B X T' hd1 hu hIa hIp ha4 dc' hmp ((hk1 _ (by decide)).trans hm3) ⟨hAP'.1, hH.1.symm, hAP, hT.2.1.symm, Nat.ne_of_gt hA.1, Nat.ne_of_gt c1⟩ F1 N1 (fun hz k' h2 tk2 m2 hk2 F2 N2 => ?_) (fun hz h2 tk2 st' he' F2 N2 => ?_)
  · exact k1 hz t oc' k' _ h2 tk2 m2 _ dc' hIr ((hk2 _).trans ((hk1 _ (by decide)).trans hm1)) ((hk2 _).trans ((hk1 _ (by decide)).trans hm3)) ((hk2 _).trans ((hk1 _ (by decide)).trans hm4)) F2 N2
  · have hp0 : 0 < (ptnF ns hd).length := List.length_pos_iff.mpr hz
    have hoth : 0 ≤ (ptnF ns hd).getD 0 0 ∧ (ptnF ns hd).getD 0 0 < (ns.length : Int) := by
      have hmem : (ptnF ns hd).getD 0 0 ∈ ptnF ns hd := by
        rw [List.getD_eq_getElem?_getD, List.getElem?_eq_getElem hp0]
        exact List.getElem_mem hp0
      exact hrest _ (List.mem_filter.mp hmem).1
    refine pair_else (kq := vp.length) he' B X T' hd1 hu hl hi hns hIr hr4 hIp hp0 hp4 d2 dc' hrest hone hoth hxb ((hk1 _ (by decide)).trans hm1) hmp ((hk1 _ (by decide)).trans hm4) ⟨hAP'.2, hH.2.1.symm, hAP.symm, hT.2.2.symm, Nat.ne_of_gt hA.2, Nat.ne_of_gt c2⟩ ⟨hH.1.symm, hH.2.1.symm, hH.2.2.2.2.symm, hH.2.2.1.symm, hH.2.2.2.1.symm⟩ F2 N2 fun M TN t2 vm k' k'' h3 tk3 m3 hIm hma hmp3 hmal lM lT F3 N3 => ?_
    exact k2 hz M TN t t2 oc' vm k' k'' h3 tk3 m3 _ dc' hIm hma (hmal.trans ((hk1 _ (by decide)).trans hm3)) (hmp3.trans ((hk1 _ (by decide)).trans hm4)) lM lT F3 N3
end
end PartPi
section PartPj
open PySem PySem.W PySem.Calls PySem.Spec PyProof.Rows
noncomputable def testOfWhile : List Stmt → Option Expr
  | [] => none
  | .While t _ _ _ :: _ => some t
  | _ :: r => testOfWhile r
/-- the test of the loop of _law_paired -/
noncomputable def pairTest : Option (Expr × Scope) := (findDef "_law_paired" Challenge.pw_sn0075_01.main.body).bind fun x => (testOfWhile x.2.1).map fun b => (b, x.2.2)
section
variable {w : World} {A₀ : Around} {s : Shared} {base h₀ g : Heap} {outer : List Env} {L L' H P A l T : Addr} {m0 m mg mb : Str → Option Value} {p : Program} {loose : List Str} {mean : ExcName → Option Value}
  {dp un : Nat} {gd : Option (List Code)} {cn : Str} {cs : Scope} {a : Addr} {ccd : Value} {cl : List (Str × Addr)} {te : Expr} {sc : Scope} {Q : Bool → Shared → Prop} {hv : List Value} {hd : List Int} {kh : Nat} {rest : List (Addr × Obj)}
theorem words_Pj_1 : True := by
  k_with "compareOp NotEq ref ref" => ((k_here; (with_reducible show wpAny _ _ (compareOp CmpOp.NotEq (Value.ref _) (Value.ref _)) _ _ _); k_dflt ((rename News _ _ _ _ => kN9); (refine' ke_ne_ints (xs := hv) (ys := []) (ns := hd) (ms := []) ?e1W7 ?e2W7 ?e3W7 ?e4W7 ?e5W7 ?_); (case e1W7 => exact ledger_list kN9 (by k_mem)); (case e2W7 => exact ledger_list (vs := []) kN9 (by k_mem)); (case e3W7 => assumption); (case e4W7 => exact IntsAre.nil); (case e5W7 => ktr_units))))
  trivial
set_option maxHeartbeats 4000000 in
theorem pair_test (he : pairTest = some (te, sc)) (B : Below (ktrTop dp un gd cn cs L a ccd cl outer) base (envX cn cs L a ccd cl :: outer) g) (X : (Mine.hd.heap_1 w.params).In g) (T' : Top p loose mean mg mb g) (hu : un + 100 < cLine)
    (hI : IntsAre hv hd) (hm1 : m (Str.ofString "ahead") = some (.ref H)) (F : Fr g L' s.heap m) (N : News g L' s.heap ((H, W.listOf hv.toArray kh) :: rest))
    (kk : ∀ (h' : Heap) (tk : Nat), Fr g L' h' m → News g L' h' ((H, W.listOf hv.toArray kh) :: rest) → Q (!decide (hd = [])) { s with heap := h', toks := tk }) :
    wpAny (model Challenge.rw_sn0075_01.row.prog w) ((ktrTop dp un gd cn cs L a ccd cl outer).deeper (envOfC (Str.ofString "_law_paired") sc L' 148 (.ref 147))) (isTrue te (envOfC (Str.ofString "_law_paired") sc L' 148 (.ref 147)) (eval te (envOfC (Str.ofString "_law_paired") sc L' 148 (.ref 147)))) Q (fun _ _ => False) s := by
  revert X; k_fill; intro X
  have he2 : pairTest = some (_, _) := rfl
  rw [he] at he2
  cases he2
  clear he
  have hml := known hm1
  rw [hml] at F
  repeat (first | (dsimp only; walk1) | walk1)
  (rename Fr _ _ _ _ => kF); (rename News _ _ _ _ => kN)
  rw [← hml] at kF
  exact kk _ _ kF (fun p hp => kN p (.tail _ hp))
end
end PartPj
section PartQ2
open PySem PySem.W PySem.Calls PySem.Spec PyProof.Rows
/-- plain values: the bits of v -/
noncomputable def bitF (v : Nat) (k : Int) : Int := ((v / 2 ^ k.toNat % 2 : Nat) : Int)
noncomputable def hN (v x y : Nat) : Nat := (v >>> (x ^^^ y) ^^^ v >>> x ^^^ v >>> y) % 2
noncomputable def toldN (v p y : Nat) : Nat := (v >>> y ^^^ ((p &&& y) ^^^ (p &&& y) >>> 2) ^^^ ((p &&& y) ^^^ (p &&& y) >>> 2) >>> 1) % 2
theorem range_at {f : Int → Int} {n i : Nat} (h : i < n) : (List.map f (rangeKs 0 n)).getD i 0 = f (i : Int) := by
  rw [List.getD_eq_getElem?_getD, List.getElem?_map]
  unfold rangeKs
  rw [List.getElem?_map, List.getElem?_range h]
  simp
theorem xor_mod (x y : Nat) : (x % 2) ^^^ (y % 2) = (x ^^^ y) % 2 := by
  have a2 := Nat.xor_mod_two_pow (a := x) (b := y) (n := 1)
  rw [Nat.pow_one] at a2
  exact a2.symm
theorem bitF_nat (v k : Nat) : bitF v (k : Int) = (((v >>> k) % 2 : Nat) : Int) := by
  unfold bitF
  rw [Int.toNat_natCast, Nat.shiftRight_eq_div_pow]
theorem hinder_nat {v P x y : Nat} (hx : x < P) (hy : y < P) (hxy : x ^^^ y < P) : hinderI (List.map (bitF v) (rangeKs 0 P)) (x : Int) (y : Int) = ((hN v x y : Nat) : Int) := by
  unfold hinderI hN
  rw [bitXor_nat, Int.toNat_natCast, Int.toNat_natCast, Int.toNat_natCast, range_at hx, range_at hy, range_at hxy, bitF_nat, bitF_nat, bitF_nat, bitXor_nat, bitXor_nat, xor_mod, xor_mod]
theorem and_one_mod (x : Nat) : x &&& 1 = x % 2 := Nat.and_one_is_mod x
theorem told_nat {v P p y : Nat} (hy : y < P) : toldI (List.map (bitF v) (rangeKs 0 P)) (p : Int) (y : Int) = ((toldN v p y : Nat) : Int) := by
  unfold toldI toldN
  have e2 : Int.toNat 2 = 2 := rfl
  have e1 : Int.toNat 1 = 1 := rfl
  rw [e2, e1, bitAnd_nat, fdiv_pow, bitXor_nat, fdiv_pow, bitXor_nat, Int.toNat_natCast, range_at hy, bitF_nat, show (1 : Int) = ((1 : Nat) : Int) from rfl, bitAnd_nat, bitXor_nat, and_one_mod, xor_mod, Nat.shiftRight_eq_div_pow (m := (p &&& y)), Nat.shiftRight_eq_div_pow (m := (p &&& y ^^^ (p &&& y) / 2 ^ 2))]
  generalize (p &&& y ^^^ (p &&& y) / 2 ^ 2) = d
  rw [Nat.xor_assoc]
end PartQ2
section PartQ3
open PySem PySem.W PySem.Calls PySem.Spec PyProof.Rows
noncomputable def pairF (ns : List Int) : Nat → List Int → List (Int × Int) → List Int → List (Int × Int) × List Int
  | 0, _, prs, al => (prs, al)
  | n + 1, hd, prs, al =>
    if hd = [] then (prs, al)
    else if ptnF ns hd = [] then pairF ns n hd.dropLast prs (al ++ [hd.getLastD 0])
    else pairF ns n (movedF ns (hd.getLastD 0) ((ptnF ns hd).getD 0 0) hd.dropLast) (prs ++ [(hd.getLastD 0, (ptnF ns hd).getD 0 0)]) al
noncomputable def turnN (v one other x : Nat) : Nat :=
  bif hN v x one == 1 then (bif hN v x other == 1 then x ^^^ one else x) ^^^ other else (bif hN v x other == 1 then x ^^^ one else x)
noncomputable def movedN (v one other : Nat) (l : List Nat) : List Nat := (l.filter fun x => !(x == other)).map (turnN v one other)
noncomputable def ptnN (v : Nat) (hd : List Nat) : List Nat := hd.dropLast.filter fun y => hN v (hd.getLastD 0) y == 1
noncomputable def pairN (v : Nat) : Nat → List Nat → List (Nat × Nat) → List Nat → List (Nat × Nat) × List Nat
  | 0, _, prs, al => (prs, al)
  | n + 1, hd, prs, al =>
    bif hd.isEmpty then (prs, al)
    else bif (ptnN v hd).isEmpty then pairN v n hd.dropLast prs (al ++ [hd.getLastD 0])
    else pairN v n (movedN v (hd.getLastD 0) ((ptnN v hd).getD 0 0) hd.dropLast) (prs ++ [(hd.getLastD 0, (ptnN v hd).getD 0 0)]) al
noncomputable abbrev cI (x : Nat) : Int := (x : Int)
noncomputable abbrev cP (q : Nat × Nat) : Int × Int := ((q.1 : Int), (q.2 : Int))
theorem getLastD_cI (l : List Nat) : (l.map cI).getLastD 0 = ((l.getLastD 0 : Nat) : Int) := by
  rw [List.getLastD_eq_getLast?, List.getLastD_eq_getLast?, List.getLast?_map]
  cases l.getLast? <;> rfl
theorem getD_cI (l : List Nat) : (l.map cI).getD 0 0 = ((l.getD 0 0 : Nat) : Int) := by
  cases l <;> rfl
theorem isEmpty_t {l : List Nat} (h : l.isEmpty = true) : l.map cI = [] := by cases l with
  | nil => rfl
  | cons _ _ => cases h
theorem isEmpty_f {l : List Nat} (h : l.isEmpty = false) : ¬ l.map cI = [] := by cases l with
  | nil => cases h
  | cons _ _ => intro e; cases e
theorem dec_one (k : Nat) : decide (((k : Nat) : Int) = 1) = (k == 1) := by
  rw [Bool.eq_iff_iff]
  simp
  omega
theorem dec_ne (k j : Nat) : decide (((k : Nat) : Int) ≠ ((j : Nat) : Int)) = !(k == j) := by
  rw [Bool.eq_iff_iff]
  simp
  omega
section
variable {v sz : Nat}
theorem turn_lt {one other x : Nat} (h1 : one < 2 ^ sz) (h2 : other < 2 ^ sz) (h3 : x < 2 ^ sz) : turnN v one other x < 2 ^ sz := by
  unfold turnN
  cases (hN v x one == 1) <;> cases (hN v x other == 1) <;> simp only [cond_true, cond_false]
  · exact h3
  · exact Nat.xor_lt_two_pow h3 h1
  · exact Nat.xor_lt_two_pow h3 h2
  · exact Nat.xor_lt_two_pow (Nat.xor_lt_two_pow h3 h1) h2
theorem turn_nat {one other x : Nat} (h1 : one < 2 ^ sz) (h2 : other < 2 ^ sz) (h3 : x < 2 ^ sz) : turnF (List.map (bitF v) (rangeKs 0 (2 ^ sz))) (one : Int) (other : Int) (x : Int) = ((turnN v one other x : Nat) : Int) := by
  unfold turnF turnN
  rw [hinder_nat h3 h1 (Nat.xor_lt_two_pow h3 h1), hinder_nat h3 h2 (Nat.xor_lt_two_pow h3 h2)]
  have e1 := dec_one (hN v x one)
  have e2 := dec_one (hN v x other)
  by_cases c1 : ((hN v x one : Nat) : Int) = 1 <;> by_cases c2 : ((hN v x other : Nat) : Int) = 1
  · rw [if_pos c1, if_pos c2, ← e1, ← e2, decide_eq_true c1, decide_eq_true c2, cond_true, cond_true, bitXor_nat, bitXor_nat]
  · rw [if_pos c1, if_neg c2, ← e1, ← e2, decide_eq_true c1, decide_eq_false c2, cond_true, cond_false, bitXor_nat]
  · rw [if_neg c1, if_pos c2, ← e1, ← e2, decide_eq_false c1, decide_eq_true c2, cond_true, cond_false, bitXor_nat]
  · rw [if_neg c1, if_neg c2, ← e1, ← e2, decide_eq_false c1, decide_eq_false c2, cond_false, cond_false]
theorem moved_nat {one other : Nat} {l : List Nat} (h1 : one < 2 ^ sz) (h2 : other < 2 ^ sz) (h3 : ∀ x ∈ l, x < 2 ^ sz) : movedF (List.map (bitF v) (rangeKs 0 (2 ^ sz))) (one : Int) (other : Int) (l.map cI) = (movedN v one other l).map cI := by
  unfold movedF movedN
  rw [List.filter_map, List.map_map, List.map_map]
  have e : List.filter ((fun v => decide (v ≠ (other : Int))) ∘ cI) l = List.filter (fun x => !(x == other)) l := List.filter_congr fun x _ => dec_ne x other
  rw [e]
  refine List.map_congr_left fun x hx => ?_
  exact turn_nat h1 h2 (h3 x (List.mem_filter.mp hx).1)
theorem last_lt {hd : List Nat} (h : ∀ x ∈ hd, x < 2 ^ sz) : hd.getLastD 0 < 2 ^ sz := by
  rw [List.getLastD_eq_getLast?]
  cases e : hd.getLast? with
  | none => exact Nat.two_pow_pos sz
  | some x => exact h x (List.mem_of_getLast? e)
theorem ptn_nat {hd : List Nat} (h : ∀ x ∈ hd, x < 2 ^ sz) : ptnF (List.map (bitF v) (rangeKs 0 (2 ^ sz))) (hd.map cI) = (ptnN v hd).map cI := by
  unfold ptnF ptnN
  rw [getLastD_cI, ← List.map_dropLast, List.filter_map]
  congr 1
  refine List.filter_congr fun x hx => ?_
  have hx' : x < 2 ^ sz := h x ((List.dropLast_sublist _).subset hx)
  show decide (hinderI _ ((hd.getLastD 0 : Nat) : Int) ((x : Nat) : Int) = 1) = _
  rw [hinder_nat (last_lt h) hx' (Nat.xor_lt_two_pow (last_lt h) hx'), dec_one]
theorem ptn_lt {hd : List Nat} (h : ∀ x ∈ hd, x < 2 ^ sz) : (ptnN v hd).getD 0 0 < 2 ^ sz := by
  cases e : ptnN v hd with
  | nil => exact Nat.two_pow_pos sz
  | cons x r =>
    have hx : x ∈ ptnN v hd := by rw [e]; exact .head _
    exact h x ((List.dropLast_sublist _).subset (List.mem_filter.mp hx).1)
theorem pair_nat : ∀ (n : Nat) (hd : List Nat) (prs : List (Nat × Nat)) (al : List Nat), (∀ x ∈ hd, x < 2 ^ sz) →
    pairF (List.map (bitF v) (rangeKs 0 (2 ^ sz))) n (hd.map cI) (prs.map cP) (al.map cI) = ((pairN v n hd prs al).1.map cP, (pairN v n hd prs al).2.map cI)
  | 0, _, _, _, _ => rfl
  | n + 1, hd, prs, al, h => by
    have hr : ∀ x ∈ hd.dropLast, x < 2 ^ sz := fun x hx => h x ((List.dropLast_sublist _).subset hx)
    unfold pairF pairN
    rw [ptn_nat h]
    cases e1 : hd.isEmpty with
    | true => rw [if_pos (isEmpty_t e1), cond_true]
    | false =>
      rw [if_neg (isEmpty_f e1), cond_false]
      cases e2 : (ptnN v hd).isEmpty with
      | true =>
        rw [if_pos (isEmpty_t e2), cond_true, getLastD_cI, ← List.map_dropLast, show List.map cI al ++ [((hd.getLastD 0 : Nat) : Int)] = List.map cI (al ++ [hd.getLastD 0]) from by rw [List.map_append]; rfl]
        exact pair_nat n _ _ _ hr
      | false =>
        rw [if_neg (isEmpty_f e2), cond_false, getLastD_cI, getD_cI, ← List.map_dropLast, moved_nat (last_lt h) (ptn_lt h) hr, show List.map cP prs ++ [(((hd.getLastD 0 : Nat) : Int), (((ptnN v hd).getD 0 0 : Nat) : Int))] = List.map cP (prs ++ [(hd.getLastD 0, (ptnN v hd).getD 0 0)]) from by rw [List.map_append]; rfl]
        refine pair_nat n _ _ _ fun x hx => ?_
        obtain ⟨y, hy, rfl⟩ := List.mem_map.mp hx
        exact turn_lt (last_lt h) (ptn_lt h) (hr y (List.mem_filter.mp hy).1)
end
end PartQ3
section PartPk
theorem base_Pk : True := by
  w_top off
  k_with_none
  k_with "mine:step" => ((first | (k_unfold; (try dsimp only)) | (k_end; wrow_close) | walk1 | (dsimp only; walk1) | (leave1; walk_say "STEP leave1"; try dsimp only) | fail "no step"))
  k_with "storeName" => ((k_here; k_dflt (first | (refine' storeI ?FW7 ?NW7 ?_ ?aW7 ?bW7; (case FW7 => k_asm); (case NW7 => k_asm); (case aW7 => rfl); (case bW7 => rfl); k_whole; intro hq9 tq9 tkq9 Fq9 Nq9; (try k_sweep)) | (refine' storeU ?FW7 ?NW7 ?_ ?aW7 ?bW7; (case FW7 => k_asm); (case NW7 => k_asm); (case aW7 => rfl); (case bW7 => rfl); k_whole; intro hq9 tkq9 Fq9 Nq9; (try k_sweep)))))
  k_with "mine:pj" => (((rename (_ ∧ _) => z); first | exact z.1 | exact Zs z.1 | exact Zl z.1 | exact Zg z.1 | exact z.2 | exact Zs z.2 | exact Zl z.2 | exact Zg z.2 | exact z.2.1 | exact Zs z.2.1 | exact Zl z.2.1 | exact Zg z.2.1 | exact z.2.2 | exact Zs z.2.2 | exact Zl z.2.2 | exact Zg z.2.2 | exact z.2.2.1 | exact Zs z.2.2.1 | exact Zl z.2.2.1 | exact Zg z.2.2.1 | exact z.2.2.2 | exact Zs z.2.2.2 | exact Zl z.2.2.2 | exact Zg z.2.2.2 | exact z.2.2.2.1 | exact Zs z.2.2.2.1 | exact Zl z.2.2.2.1 | exact Zg z.2.2.2.1 | exact z.2.2.2.2 | exact Zs z.2.2.2.2 | exact Zl z.2.2.2.2 | exact Zg z.2.2.2.2 | exact z.2.2.2.2.1 | exact Zs z.2.2.2.2.1 | exact Zl z.2.2.2.2.1 | exact Zg z.2.2.2.2.1 | exact z.2.2.2.2.2 | exact Zs z.2.2.2.2.2 | exact Zl z.2.2.2.2.2 | exact Zg z.2.2.2.2.2 | exact z.2.2.2.2.2.1 | exact Zs z.2.2.2.2.2.1 | exact Zl z.2.2.2.2.2.1 | exact Zg z.2.2.2.2.2.1 | exact z.2.2.2.2.2.2 | exact Zs z.2.2.2.2.2.2 | exact Zl z.2.2.2.2.2.2 | exact Zg z.2.2.2.2.2.2 | exact z.2.2.2.2.2.2.1 | exact Zs z.2.2.2.2.2.2.1 | exact Zl z.2.2.2.2.2.2.1 | exact Zg z.2.2.2.2.2.2.1 | exact z.2.2.2.2.2.2.2 | exact Zs z.2.2.2.2.2.2.2 | exact Zl z.2.2.2.2.2.2.2 | exact Zg z.2.2.2.2.2.2.2 | exact z.2.2.2.2.2.2.2.1 | exact Zs z.2.2.2.2.2.2.2.1 | exact Zl z.2.2.2.2.2.2.2.1 | exact Zg z.2.2.2.2.2.2.2.1 | exact z.2.2.2.2.2.2.2.2 | exact Zs z.2.2.2.2.2.2.2.2 | exact Zl z.2.2.2.2.2.2.2.2 | exact Zg z.2.2.2.2.2.2.2.2 | exact z.2.2.2.2.2.2.2.2.1 | exact Zs z.2.2.2.2.2.2.2.2.1 | exact Zl z.2.2.2.2.2.2.2.2.1 | exact Zg z.2.2.2.2.2.2.2.2.1 | exact z.2.2.2.2.2.2.2.2.2.1 | exact Zs z.2.2.2.2.2.2.2.2.2.1 | exact Zl z.2.2.2.2.2.2.2.2.2.1 | exact Zg z.2.2.2.2.2.2.2.2.2.1 | exact z.2.2.2.2.2.2.2.2.2.2.1 | exact Zs z.2.2.2.2.2.2.2.2.2.2.1 | exact Zl z.2.2.2.2.2.2.2.2.2.2.1 | exact Zg z.2.2.2.2.2.2.2.2.2.2.1 | exact z.2.2.2.2.2.2.2.2.2.2.2.1 | exact Zs z.2.2.2.2.2.2.2.2.2.2.2.1 | exact Zl z.2.2.2.2.2.2.2.2.2.2.2.1 | exact Zg z.2.2.2.2.2.2.2.2.2.2.2.1 | exact z.2.2.2.2.2.2.2.2.2.2.2.2.1 | exact Zs z.2.2.2.2.2.2.2.2.2.2.2.2.1 | exact Zl z.2.2.2.2.2.2.2.2.2.2.2.2.1 | exact Zg z.2.2.2.2.2.2.2.2.2.2.2.2.1 | exact z.2.2.2.2.2.2.2.2.2.2.2.2.2.1 | exact Zs z.2.2.2.2.2.2.2.2.2.2.2.2.2.1 | exact Zl z.2.2.2.2.2.2.2.2.2.2.2.2.2.1 | exact Zg z.2.2.2.2.2.2.2.2.2.2.2.2.2.1 | (clear z; (k_extra "mine:pj"))))
  k_with "mine:ne" => (first | (with_reducible assumption) | exact Ne.symm (by with_reducible assumption) | exact ne_lt (by with_reducible assumption) | exact ne_gt (by with_reducible assumption) | exact ne_lt (lt_led (by with_reducible assumption) (by k_mem)) | exact ne_gt (lt_led (by with_reducible assumption) (by k_mem)) | ((try dsimp only); with_reducible (k_extra "mine:pj")) | assumption | exact Nat.ne_of_lt (Nat.lt_succ_self _) | exact Nat.ne_of_gt (Nat.lt_succ_self _) | (walk_say "K_NE OMEGA"; refine neN ?_; (try dsimp only); omega))
  k_with "mine:nes" => (first | (refine And.intro ?_ ?_ <;> (k_extra "mine:nes")) | k_ne)
  k_with "mine:in" => (first | (with_reducible exact List.mem_cons_self) | (with_reducible assumption) | ((with_reducible refine List.mem_cons_of_mem _ ?_); (k_extra "mine:in")) | exact List.mem_cons_self | (refine List.mem_cons_of_mem _ ?_; (k_extra "mine:in")) | (refine List.mem_append_left _ ?_; (k_extra "mine:in")) | (refine List.mem_append_right _ ?_; (k_extra "mine:in")))
  k_with "mine:sub" => (first | (with_reducible exact sub_id) | (with_reducible exact sub_nil) | ((with_reducible refine sub_cons ?haW7 ?hbW7); (case haW7 => (k_extra "mine:in")); (case hbW7 => (k_extra "mine:sub"))) | ((with_reducible refine sub_both ?haW7 ?hbW7); (case haW7 => (k_extra "mine:sub")); (case hbW7 => (k_extra "mine:sub"))) | ((with_reducible refine sub_skip ?_); (k_extra "mine:sub")) | ((with_reducible refine sub_right ?_); (k_extra "mine:sub")) | ((with_reducible refine sub_left ?_); (k_extra "mine:sub")) | (simp only [List.nil_append, List.cons_append]; (k_extra "mine:sub")))
  k_with "mine:keys" => (first | (k_dflt (exact keys_of rfl rfl)) | (walk_say "K_KEYS LONG"; repeat (first | exact True.intro | refine And.intro ⟨_, _, rfl, rfl⟩ ?_)))
  k_with "mine:enter0" => ((refine' enter0 ?k1W7 ?k2W7 ?k3W7 ?k4W7 ?kKW7 ?k8W7 ?k6W7 ?k7W7 ?k9W7 ?kBW7 ?_ ?c2W7 ?c3W7 ?c4W7 ?c5W7; (case kKW7 => assumption); (case k1W7 => k_asm); (case k2W7 => k_asm); (case k3W7 => k_asm); (case k4W7 => k_asm); (case k6W7 => k_is); (case k7W7 => k_is); (case k8W7 => ktr_room); (case k9W7 => exact BindsTo.of_eq rfl); (case c5W7 => decide); (case kBW7 => exact locs rfl); (case c2W7 => exact rfl); (case c3W7 => exact rfl); (case c4W7 => exact rfl); k_whole; intro Lq9 hq9 tkq9 Fq9 Nq9 Bq9 Xq9 Tq9; (try dsimp only); (try k_fold)))
  k_with "mine:ret" => (((all_goals (try dsimp only)); (all_goals (try k_unfold)); (all_goals (try dsimp only))))
  k_with "mine:same" => (first | exact fun _ _ => rfl | exact fun _ _ _ => rfl | exact same_fg | exact same_fgN | (refine same_upY ?_; (k_extra "mine:same")) | (refine same_up (by rfl) ?_; (k_extra "mine:same")) | (refine same_upN (by rfl) ?_; (k_extra "mine:same")) | (intros; (try dsimp only [forget, up]); (repeat' split); all_goals first | rfl | (exfalso; subst_vars; (rename (List.contains _ _ = false) => hz9); (revert hz9); decide) | (exfalso; (rename (List.contains _ _ = false) => hz9); (rename (List.contains _ _ = true) => hz8); rw [hz9] at hz8; exact Bool.noConfusion hz8) | (exfalso; subst_vars; contradiction)))
  trivial
open PySem PySem.W PySem.Calls PySem.Spec PyProof.Rows
/-- the i-th statement of _law_paired -/
noncomputable def pairedAt (i : Nat) : Option (Stmt × Scope) := (findDef "_law_paired" Challenge.pw_sn0075_01.main.body).bind fun x => (x.2.1[i]?).map fun s => (s, x.2.2)
/-- a list of pairs and its tuples in the ledger (two at most) -/
noncomputable def PrsIs (pv : List Value) (prs : List (Int × Int)) (tl : List (Addr × Obj)) : Prop :=
  (pv = [] ∧ prs = [] ∧ tl = []) ∨ (∃ (T : Addr) (a b : Int) (ta tb : Tok), pv = [.ref T] ∧ prs = [(a, b)] ∧ tl = [(T, tupObj #[.int a ta, .int b tb])]) ∨
    (∃ (T : Addr) (a b : Int) (ta tb : Tok) (U : Addr) (c d : Int) (tc td : Tok), pv = [.ref T, .ref U] ∧ prs = [(a, b), (c, d)] ∧ tl = [(T, tupObj #[.int a ta, .int b tb]), (U, tupObj #[.int c tc, .int d td])])
theorem moved_len {ns : List Int} {one other : Int} {l : List Int} (h : other ∈ l) : (movedF ns one other l).length + 1 ≤ l.length := by
  unfold movedF
  rw [List.length_map]
  induction l with
  | nil => cases h
  | cons x r ih =>
    by_cases e : x = other
    · rw [List.filter_cons_of_neg (by simp [e]), List.length_cons]
      exact Nat.add_le_add_right (List.length_filter_le _ _) 1
    · rw [List.filter_cons_of_pos (by simp [e]), List.length_cons, List.length_cons]
      exact Nat.add_le_add_right (ih ((List.mem_cons.mp h).resolve_left (fun q => e q.symm))) 1
theorem ptn_mem {ns hd : List Int} (h : ptnF ns hd ≠ []) : (ptnF ns hd).getD 0 0 ∈ hd.dropLast := by
  have hp0 : 0 < (ptnF ns hd).length := List.length_pos_iff.mpr h
  have hmem : (ptnF ns hd).getD 0 0 ∈ ptnF ns hd := by
    rw [List.getD_eq_getElem?_getD, List.getElem?_eq_getElem hp0]
    exact List.getElem_mem hp0
  exact (List.mem_filter.mp hmem).1
theorem turnF_in {ns : List Int} {one other x : Int} (hxb : ∀ x y : Int, 0 ≤ x ∧ x < (ns.length : Int) → 0 ≤ y ∧ y < (ns.length : Int) → 0 ≤ Builtin.bitXor x y ∧ Builtin.bitXor x y < (ns.length : Int))
    (h1 : 0 ≤ one ∧ one < (ns.length : Int)) (h2 : 0 ≤ other ∧ other < (ns.length : Int)) (h3 : 0 ≤ x ∧ x < (ns.length : Int)) : 0 ≤ turnF ns one other x ∧ turnF ns one other x < (ns.length : Int) := by
  unfold turnF
  by_cases c1 : hinderI ns x one = 1 <;> by_cases c2 : hinderI ns x other = 1
  · rw [if_pos c1, if_pos c2]; exact hxb _ _ (hxb _ _ h3 h1) h2
  · rw [if_pos c1, if_neg c2]; exact hxb _ _ h3 h2
  · rw [if_neg c1, if_pos c2]; exact hxb _ _ h3 h1
  · rw [if_neg c1, if_neg c2]; exact h3
theorem pairF_nil (ns : List Int) (n : Nat) (prs : List (Int × Int)) (al : List Int) : pairF ns n [] prs al = (prs, al) := by
  cases n with
  | zero => rfl
  | succ n => unfold pairF; rw [if_pos rfl]
theorem pairF_succ (ns : List Int) (n : Nat) (hd : List Int) (prs : List (Int × Int)) (al : List Int) : pairF ns (n + 1) hd prs al = if hd = [] then (prs, al)
    else if ptnF ns hd = [] then pairF ns n hd.dropLast prs (al ++ [hd.getLastD 0])
    else pairF ns n (movedF ns (hd.getLastD 0) ((ptnF ns hd).getD 0 0) hd.dropLast) (prs ++ [(hd.getLastD 0, (ptnF ns hd).getD 0 0)]) al := rfl
/-- the loop's state -/
noncomputable def PairJ (A P C O : Addr) (o2 : Obj) (ns : List Int) (sz : Nat) (R : List (Int × Int) × List Int) (n : Nat) (m : Str → Option Value) (news : List (Addr × Obj)) : Prop :=
  ∃ (H : Addr) (hv av pv : List Value) (hd al : List Int) (prs : List (Int × Int)) (kh ka kp : Nat) (oc : Obj) (xc : Option Value) (tl : List (Addr × Obj)),
    news = (H, W.listOf hv.toArray kh) :: (A, W.listOf av.toArray ka) :: (P, W.listOf pv.toArray kp) :: (C, oc) :: (O, o2) :: tl ∧ PrsIs pv prs tl ∧
    m (Str.ofString "ahead") = some (.ref H) ∧ m (Str.ofString "alone") = some (.ref A) ∧ m (Str.ofString "pairs") = some (.ref P) ∧ oc.data = .cell xc ∧
    IntsAre hv hd ∧ IntsAre av al ∧ (∀ x ∈ hd, 0 ≤ x ∧ x < (ns.length : Int)) ∧ hd.length ≤ n ∧ 2 * prs.length + al.length + hd.length ≤ sz ∧ pairF ns n hd prs al = R ∧
    (@Ne Nat H A ∧ @Ne Nat H P ∧ @Ne Nat H C ∧ @Ne Nat H O) ∧ ∀ q ∈ tl, @Ne Nat H q.1 ∧ @Ne Nat q.1 C ∧ @Ne Nat q.1 A ∧ @Ne Nat q.1 P
section
variable {w : World} {A₀ : Around} {s : Shared} {base h₀ g : Heap} {outer : List Env} {L L' H P A l T : Addr} {m0 m mg mb : Str → Option Value} {p : Program} {loose : List Str} {mean : ExcName → Option Value}
  {dp un : Nat} {gd : Option (List Code)} {cn : Str} {cs : Scope} {a : Addr} {ccd : Value} {cl : List (Str × Addr)} {st : Stmt} {sc : Scope} {Q : Flow → Shared → Prop} {vs hv : List Value} {ns hd : List Int} {kh sz : Nat} {oc o2 : Obj}
set_option maxHeartbeats 1000000 in
theorem pair_loop (he : pairedAt 3 = some (st, sc)) (B : Below (ktrTop dp un gd cn cs L a ccd cl outer) base (envX cn cs L a ccd cl :: outer) g) (X : (Mine.hd.heap_1 w.params).In g) (T' : Top p loose mean mg mb g) (hd1 : dp + 2 < recursionLimit) (hu : un + 100 < cLine)
    (hl : g.IsList l vs.toArray) (hi : IntsAre vs ns) (hns : ns.length < 100) (hI : IntsAre hv hd) (hz : hd.length ≤ sz) (h4 : sz ≤ 4) (d2 : o2.data = .cell (some (.ref l))) {xc : Option Value} (dc : oc.data = .cell xc)
    (hb : ∀ x ∈ hd, 0 ≤ x ∧ x < (ns.length : Int)) (hxb : ∀ x y : Int, 0 ≤ x ∧ x < (ns.length : Int) → 0 ≤ y ∧ y < (ns.length : Int) → 0 ≤ Builtin.bitXor x y ∧ Builtin.bitXor x y < (ns.length : Int))
    (hm1 : m (Str.ofString "ahead") = some (.ref H)) (hm3 : m (Str.ofString "alone") = some (.ref A)) (hm4 : m (Str.ofString "pairs") = some (.ref P))
    (hA : @LT.lt Nat _ (L' + 1 + 1) A ∧ @LT.lt Nat _ (L' + 1 + 1) P) (hAP : @Ne Nat A P) (hH : @Ne Nat H A ∧ @Ne Nat H P ∧ @Ne Nat H (L' + 1 + 1) ∧ @Ne Nat H (L' + 1))
    (F : Fr g L' s.heap m) (N : News g L' s.heap [(H, W.listOf hv.toArray kh), (A, W.listOf #[] 0), (P, W.listOf #[] 0), (L' + 1 + 1, oc), (L' + 1, o2)])
    (kk : ∀ (av pv : List Value) (al : List Int) (prs : List (Int × Int)) (ka kp : Nat) (tl : List (Addr × Obj)) (h' : Heap) (tk : Nat) (m' : Str → Option Value), pairF ns sz hd [] [] = (prs, al) → IntsAre av al → al.length ≤ 4 → PrsIs pv prs tl → m' (Str.ofString "alone") = some (.ref A) → m' (Str.ofString "pairs") = some (.ref P) → (∀ q ∈ tl, @Ne Nat q.1 A ∧ @Ne Nat q.1 P) → Fr g L' h' m' →
      News g L' h' ((A, W.listOf av.toArray ka) :: (P, W.listOf pv.toArray kp) :: tl) → Q .next { s with heap := h', toks := tk }) :
    wpAny (model Challenge.rw_sn0075_01.row.prog w) ((ktrTop dp un gd cn cs L a ccd cl outer).deeper (envOfC (Str.ofString "_law_paired") sc L' 148 (.ref 147))) (exec st (envOfC (Str.ofString "_law_paired") sc L' 148 (.ref 147))) Q (fun _ _ => False) s := by
  have he2 : pairedAt 3 = some (.While _ _ [] _, _) := rfl
  have he3 : pairTest = some (_, _) := rfl
  have he4 : pairSeg 0 3 = some (_, _) := rfl
  rw [he] at he2
  cases he2
  have c1 : L' + 1 < A := Nat.lt_of_succ_lt hA.1
  have c2 : L' + 1 < P := Nat.lt_of_succ_lt hA.2
  have c3 : @Ne Nat (L' + 1) (L' + 1 + 1) := Nat.ne_of_lt (Nat.lt_succ_self _)
  refine While_inv2 (PairJ A P (L' + 1 + 1) (L' + 1) o2 ns sz (pairF ns sz hd [] [])) F N (n₀ := sz) ⟨H, hv, [], [], hd, [], [], kh, 0, 0, oc, xc, [], rfl, .inl ⟨rfl, rfl, rfl⟩, hm1, hm3, hm4, dc, hI, .nil, hb, hz, by simpa using hz, rfl, hH, fun _ h => nomatch h⟩ ?_ (fun e s' h => h.elim)
  clear hm1 hm3 hm4 dc hI hb hz hH F N
  rintro n m₁ news₁ h₁ tk₁ F₁ N₁ ⟨H, hv, av, pv, hd', al, prs, kh, ka, kp, oc, xc, tl, rfl, hprs, hm1, hm3, hm4, dc, hI, hIa, hb, hz, hsz, hR, hH, htl⟩
  refine pair_test he3 B X T' hu hI hm1 F₁ N₁ fun h2 tk2 F2 N2 => ?_
  by_cases hne : hd' = []
  · rw [decide_eq_true hne]
    simp only [Bool.not_true, Bool.false_eq_true, if_false]
    subst hne
    rw [pairF_nil] at hR
    exact kk av pv al prs ka kp tl h2 tk2 m₁ hR.symm hIa (by clear hR F₁ N₁ F2 N2 kk; simp only [List.length_nil] at hsz; omega) hprs hm3 hm4 (fun q hq => (htl q hq).2.2) F2 (fun q hq => N2 q (by
      exact sub_app (by (k_extra "mine:sub")) hq))
  · rw [decide_eq_false hne]
    simp only [Bool.not_false, if_true]
    have h0 : 0 < hd'.length := List.length_pos_iff.mpr hne
    obtain ⟨n, rfl⟩ : ∃ k, n = k + 1 := ⟨n - 1, by omega⟩
    rw [pairF_succ, if_neg hne] at hR
    have hdl : hd'.dropLast.length + 1 = hd'.length := by rw [List.length_dropLast]; omega
    have hone := hb _ (last_mem h0)
    have hrest : ∀ x, x ∈ hd'.dropLast → 0 ≤ x ∧ x < (ns.length : Int) := fun x hx => hb x ((List.dropLast_sublist _).subset hx)
    rcases hprs with ⟨rfl, rfl, rfl⟩ | ⟨T, ca, cb, ta, tb, rfl, rfl, rfl⟩ | ⟨T, ca, cb, ta, tb, U, cc, cd, tc, td, rfl, rfl, rfl⟩
    · refine pair_turn (kh := kh) (ka := ka) (kp := kp) (pv := []) (T := L' + 1) (oT := o2) he4 B X T' hd1 hu hl hi hns hI hIa h0 (by omega) (by omega) (Nat.le_of_ble_eq_true rfl) d2 dc hb hxb hm1 hm3 hm4 hA hAP ⟨hH.1, hH.2.1, hH.2.2.1, hH.2.2.2, hH.2.2.2⟩ ⟨c3, Nat.ne_of_lt c1, Nat.ne_of_lt c2⟩ F2 (fun q hq => N2 q (by
        exact sub_app (by (k_extra "mine:sub")) hq)) (fun hp t oc' k' k'' h3 tk3 m3 xc' dc' hI' hma hml hmp F3 N3 => ?_) (fun hp M TN t1 t2 oc' vm k' k'' h3 tk3 m3 xc' dc' hI' hma hml hmp lM lT F3 N3 => ?_)
      · rw [if_pos hp] at hR
        refine ⟨h3, tk3, m3, _, n, rfl, F3, ?_, Nat.lt_succ_self _, ⟨H, _, _, [], _, _, [], k'', k', kp, oc', xc', [], rfl, .inl ⟨rfl, rfl, rfl⟩, hma, hml, hmp, dc', hI', hIa.append (.cons _ t .nil), hrest, by omega, ?_, hR, hH, fun _ h => nomatch h⟩⟩
        · exact fun q hq => N3 q (by
            exact sub_app (by (k_extra "mine:sub")) hq)
        · rw [List.length_append, List.length_singleton]; simp only [List.length_nil] at hsz ⊢; omega
      · rw [if_neg hp] at hR
        have hpm := ptn_mem hp
        have hml2 := moved_len (ns := ns) (one := hd'.getLastD 0) hpm
        refine ⟨h3, tk3, m3, _, n, rfl, F3, ?_, Nat.lt_succ_self _, ⟨M, _, _, _, _, _, _, k', ka, k'', oc', xc', [(TN, _)], rfl, .inr (.inl ⟨TN, _, _, t1, t2, rfl, rfl, rfl⟩), hma, hml, hmp, dc', hI', hIa, ?_, by omega, ?_, hR, ⟨(Nat.ne_of_lt lM.1).symm, (Nat.ne_of_lt lM.2.1).symm, (Nat.ne_of_lt lM.2.2.2.2.1).symm, (Nat.ne_of_lt lM.2.2.2.2.2).symm⟩, ?_⟩⟩
        · exact fun q hq => N3 q (by
            exact sub_app (by (k_extra "mine:sub")) hq)
        · intro x hx
          obtain ⟨y, hy, rfl⟩ := List.mem_map.mp hx
          exact turnF_in hxb hone (hrest _ hpm) (hrest _ (List.mem_filter.mp hy).1)
        · simp only [List.nil_append, List.length_singleton, List.length_nil] at hsz ⊢; omega
        · intro q hq
          rw [List.mem_singleton.mp hq]
          exact ⟨(Nat.ne_of_lt lM.2.2.1).symm, (Nat.ne_of_lt lT.2.2.2.1).symm, (Nat.ne_of_lt lT.1).symm, (Nat.ne_of_lt lT.2.1).symm⟩
    · have hT := htl (T, _) (.head _)
      refine pair_turn (kh := kh) (ka := ka) (kp := kp) (pv := [Value.ref T]) (T := T) (oT := tupObj #[.int ca ta, .int cb tb]) he4 B X T' hd1 hu hl hi hns hI hIa h0 (by omega) (by omega) (Nat.le_of_ble_eq_true rfl) d2 dc hb hxb hm1 hm3 hm4 hA hAP ⟨hH.1, hH.2.1, hH.2.2.1, hH.2.2.2, hT.1⟩ hT.2 F2 (fun q hq => N2 q (by
        exact sub_app (by (k_extra "mine:sub")) hq)) (fun hp t oc' k' k'' h3 tk3 m3 xc' dc' hI' hma hml hmp F3 N3 => ?_) (fun hp M TN t1 t2 oc' vm k' k'' h3 tk3 m3 xc' dc' hI' hma hml hmp lM lT F3 N3 => ?_)
      · rw [if_pos hp] at hR
        refine ⟨h3, tk3, m3, _, n, rfl, F3, ?_, Nat.lt_succ_self _, ⟨H, _, _, _, _, _, _, k'', k', kp, oc', xc', [(T, _)], rfl, .inr (.inl ⟨T, _, _, ta, tb, rfl, rfl, rfl⟩), hma, hml, hmp, dc', hI', hIa.append (.cons _ t .nil), hrest, by omega, ?_, hR, hH, htl⟩⟩
        · exact fun q hq => N3 q (by
            exact sub_app (by (k_extra "mine:sub")) hq)
        · rw [List.length_append, List.length_singleton]; simp only [List.length_singleton] at hsz ⊢; omega
      · rw [if_neg hp] at hR
        have hpm := ptn_mem hp
        have hml2 := moved_len (ns := ns) (one := hd'.getLastD 0) hpm
        refine ⟨h3, tk3, m3, _, n, rfl, F3, ?_, Nat.lt_succ_self _, ⟨M, _, _, _, _, _, _, k', ka, k'', oc', xc', [(T, _), (TN, _)], rfl, .inr (.inr ⟨T, _, _, ta, tb, TN, _, _, t1, t2, rfl, rfl, rfl⟩), hma, hml, hmp, dc', hI', hIa, ?_, by omega, ?_, hR, ⟨(Nat.ne_of_lt lM.1).symm, (Nat.ne_of_lt lM.2.1).symm, (Nat.ne_of_lt lM.2.2.2.2.1).symm, (Nat.ne_of_lt lM.2.2.2.2.2).symm⟩, ?_⟩⟩
        · exact fun q hq => N3 q (by
            exact sub_app (by (k_extra "mine:sub")) hq)
        · intro x hx
          obtain ⟨y, hy, rfl⟩ := List.mem_map.mp hx
          exact turnF_in hxb hone (hrest _ hpm) (hrest _ (List.mem_filter.mp hy).1)
        · simp only [List.cons_append, List.nil_append, List.length_cons, List.length_singleton, List.length_nil] at hsz ⊢; omega
        · intro q hq
          rcases List.mem_cons.mp hq with rfl | hq
          · exact ⟨(Nat.ne_of_lt lM.2.2.2.1).symm, hT.2⟩
          · rw [List.mem_singleton.mp hq]
            exact ⟨(Nat.ne_of_lt lM.2.2.1).symm, (Nat.ne_of_lt lT.2.2.2.1).symm, (Nat.ne_of_lt lT.1).symm, (Nat.ne_of_lt lT.2.1).symm⟩
    · simp only [List.length_cons, List.length_nil] at hsz
      omega
end
end PartPk
section PartPm
open PySem PySem.W PySem.Calls PySem.Spec PyProof.Rows
/-- what _law_paired gives: (pairs, alone), made anew -/
noncomputable def PairRes (h : Heap) (ns start : List Int) (sz : Nat) (v : Value) (h' : Heap) : Prop :=
  ∃ (R A P : Addr) (av pv : List Value) (al : List Int) (prs : List (Int × Int)) (ka kp : Nat) (tl : List (Addr × Obj)), v = .ref R ∧ pairF ns sz start [] [] = (prs, al) ∧ IntsAre av al ∧ al.length ≤ 4 ∧ PrsIs pv prs tl ∧ @Ne Nat A P ∧ (∀ q ∈ tl, @Ne Nat q.1 P) ∧
    (∀ q ∈ (R, tupObj #[.ref P, .ref A]) :: (A, W.listOf av.toArray ka) :: (P, W.listOf pv.toArray kp) :: tl, h'.get? q.1 = some q.2 ∧ h.get? q.1 = none)
section
variable {w : World} {A₀ : Around} {s : Shared} {base h₀ : Heap} {outer : List Env} {L : Addr} {m mg mb : Str → Option Value} {p : Program} {loose : List Str} {mean : ExcName → Option Value}
  {dp un : Nat} {gd : Option (List Code)} {cn : Str} {cs : Scope} {a : Addr} {ccd : Value} {cl : List (Str × Addr)}
local macro_rules | `(tactic| omega) => `(tactic| ((repeat ((rename (@Ne Nat _ _ ∧ _) => hz9); clear hz9)); (repeat ((rename ((@Ne Nat _ _ ∧ _) ∧ _) => hz9); clear hz9)); omega (splitNatSub := true)))
set_option maxHeartbeats 4000000 in
theorem spec_paired3 (B : Below A₀ base outer h₀) (F : Fr h₀ L s.heap m) (X : (hd.heap_1 w.params).In h₀) (T : Top p loose mean mg mb h₀) (hk : cs.kind = .function) (hd : dp + 2 < recursionLimit) (hu : un + 100 < cLine)
    {l : Addr} {vs : List Value} {ns : List Int} {tz : Tok} (hl : s.heap.IsList l vs.toArray) (hi : IntsAre vs ns) (hns : ns.length = 8) (hxb : ∀ x y : Int, 0 ≤ x ∧ x < (ns.length : Int) → 0 ≤ y ∧ y < (ns.length : Int) → 0 ≤ Builtin.bitXor x y ∧ Builtin.bitXor x y < (ns.length : Int)) :
    codeAny (model Challenge.rw_sn0075_01.row.prog w) (ktrTop dp un gd cn cs L a ccd cl outer) (.call (.ref 148) ⟨[.ref l, .int 3 tz], []⟩) (RetX [] s (PairRes s.heap ns [1, 2, 4] 3)) s := by
  have N : News h₀ L s.heap [] := fun p hp => nomatch hp
  revert X; k_fill; intro X
  k_dflt (refine' enterXC (news := []) B F X T N hk ?k8 ?k6 ?k7 ?k9 ?kB ?kD ?_ ?c2 ?c3 ?c4; (case k6 => k_is); (case k7 => k_is); (case k8 => ktr_room); (case k9 => exact BindsTo.of_eq rfl); (case kB => exact rfl); (case kD => decide +kernel); (case c2 => exact rfl); (case c3 => exact rfl); (case c4 => exact rfl); k_whole; intro g L' h' tk' cells' hg st1 F' N' Y' B' X' T' l1; (try k_lt l1); k_cells Y'; (try simp only [List.cons_append, List.nil_append] at N'); (try dsimp only); (try k_fold))
  have hlg : g.IsList l vs.toArray := hl.at fun o e => hg l o (by simp) e
  (iterate 23 (first | (dsimp only; walk1) | walk1))
  (rename Fr _ _ _ _ => kF); (rename News _ _ _ _ => kN); (rename IntsAre _ (List.map _ _) => kI)
  (rename (@Ne Nat _ _ ∧ @Ne Nat _ _ ∧ _) => kO)
  have he : pairedAt 3 = some (_, _) := rfl
  rw [show List.map (fun k' : Int => (2 : Int) ^ k'.toNat) (rangeKs 0 (3 - 0 : Int).toNat) = [1, 2, 4] from by decide +kernel] at kI
  refine pair_loop (xc := none) (sz := 3) (hd := [1, 2, 4]) he B' X' T' hd (by ktr_units) hlg hi (by omega) kI (by decide) (by decide) ?d2 ?dc ?hb hxb ?m1 ?m3 ?m4 ?hA ?hAP ?hH kF kN ?kk
  case d2 => assumption
  case dc => assumption
  case hb => rw [hns]; decide
  case m1 => exact rfl
  case m3 => exact rfl
  case m4 => exact rfl
  case hA => clear kI kF kN kO; omega
  case hAP => clear kI kF kN kO; omega
  case hH => exact ⟨kO.1.symm, kO.2.1.symm, kO.2.2.1.symm, kO.2.2.2.symm⟩
  case kk =>
    intro av pv al prs ka kp tl h2 tk2 m2 hR hIa hal hP hma hmp htl F2 N2
    rw [known hma, known hmp] at F2
    clear kI kF kN kO
    repeat (first | (dsimp only; walk1) | walk1)
    (k_extra "mine:ret")
    (rename Fr _ _ _ _ => kF); (rename News _ _ _ _ => kN)
    exact retX hg kF ⟨_, _, _, av, pv, al, prs, ka, kp, tl, rfl, hR, hIa, hal, hP, by clear kF kN hP hR; omega, fun q hq => (htl q hq).2, fun q hq => ⟨(kN q hq).1, fresh_back hg (by simp) (kN q hq).2.2⟩⟩
set_option maxHeartbeats 4000000 in
theorem spec_paired4 (B : Below A₀ base outer h₀) (F : Fr h₀ L s.heap m) (X : (hd.heap_1 w.params).In h₀) (T : Top p loose mean mg mb h₀) (hk : cs.kind = .function) (hd : dp + 2 < recursionLimit) (hu : un + 100 < cLine)
    {l : Addr} {vs : List Value} {ns : List Int} {tz : Tok} (hl : s.heap.IsList l vs.toArray) (hi : IntsAre vs ns) (hns : ns.length = 16) (hxb : ∀ x y : Int, 0 ≤ x ∧ x < (ns.length : Int) → 0 ≤ y ∧ y < (ns.length : Int) → 0 ≤ Builtin.bitXor x y ∧ Builtin.bitXor x y < (ns.length : Int)) :
    codeAny (model Challenge.rw_sn0075_01.row.prog w) (ktrTop dp un gd cn cs L a ccd cl outer) (.call (.ref 148) ⟨[.ref l, .int 4 tz], []⟩) (RetX [] s (PairRes s.heap ns [1, 2, 4, 8] 4)) s := by
  have N : News h₀ L s.heap [] := fun p hp => nomatch hp
  revert X; k_fill; intro X
  k_dflt (refine' enterXC (news := []) B F X T N hk ?k8 ?k6 ?k7 ?k9 ?kB ?kD ?_ ?c2 ?c3 ?c4; (case k6 => k_is); (case k7 => k_is); (case k8 => ktr_room); (case k9 => exact BindsTo.of_eq rfl); (case kB => exact rfl); (case kD => decide +kernel); (case c2 => exact rfl); (case c3 => exact rfl); (case c4 => exact rfl); k_whole; intro g L' h' tk' cells' hg st1 F' N' Y' B' X' T' l1; (try k_lt l1); k_cells Y'; (try simp only [List.cons_append, List.nil_append] at N'); (try dsimp only); (try k_fold))
  have hlg : g.IsList l vs.toArray := hl.at fun o e => hg l o (by simp) e
  (iterate 23 (first | (dsimp only; walk1) | walk1))
  (rename Fr _ _ _ _ => kF); (rename News _ _ _ _ => kN); (rename IntsAre _ (List.map _ _) => kI)
  (rename (@Ne Nat _ _ ∧ @Ne Nat _ _ ∧ _) => kO)
  have he : pairedAt 3 = some (_, _) := rfl
  rw [show List.map (fun k' : Int => (2 : Int) ^ k'.toNat) (rangeKs 0 (4 - 0 : Int).toNat) = [1, 2, 4, 8] from by decide +kernel] at kI
  refine pair_loop (xc := none) (sz := 4) (hd := [1, 2, 4, 8]) he B' X' T' hd (by ktr_units) hlg hi (by omega) kI (by decide) (by decide) ?d2 ?dc ?hb hxb ?m1 ?m3 ?m4 ?hA ?hAP ?hH kF kN ?kk
  case d2 => assumption
  case dc => assumption
  case hb => rw [hns]; decide
  case m1 => exact rfl
  case m3 => exact rfl
  case m4 => exact rfl
  case hA => clear kI kF kN kO; omega
  case hAP => clear kI kF kN kO; omega
  case hH => exact ⟨kO.1.symm, kO.2.1.symm, kO.2.2.1.symm, kO.2.2.2.symm⟩
  case kk =>
    intro av pv al prs ka kp tl h2 tk2 m2 hR hIa hal hP hma hmp htl F2 N2
    rw [known hma, known hmp] at F2
    clear kI kF kN kO
    repeat (first | (dsimp only; walk1) | walk1)
    (k_extra "mine:ret")
    (rename Fr _ _ _ _ => kF); (rename News _ _ _ _ => kN)
    exact retX hg kF ⟨_, _, _, av, pv, al, prs, ka, kp, tl, rfl, hR, hIa, hal, hP, by clear kF kN hP hR; omega, fun q hq => (htl q hq).2, fun q hq => ⟨(kN q hq).1, fresh_back hg (by simp) (kN q hq).2.2⟩⟩
end
end PartPm
section PartQ4
open PySem PySem.W PySem.Calls PySem.Spec PyProof.Rows
noncomputable def sel (b : Bool) (x : Nat) : Nat := bif b then x else 0
/-- the sum of those tables of a list that the bits of c name -/
noncomputable def tabL : List Nat → Nat → Nat
  | [], _ => 0
  | x :: r, c => sel (c.testBit 0) x ^^^ tabL r (c / 2)
theorem sel_xor (a b : Bool) (x : Nat) : sel (a ^^ b) x = sel a x ^^^ sel b x := by
  cases a <;> cases b <;> simp [sel]
theorem tabL_xor : ∀ (l : List Nat) (a b : Nat), tabL l (a ^^^ b) = tabL l a ^^^ tabL l b
  | [], _, _ => by simp [tabL]
  | x :: r, a, b => by
    unfold tabL
    rw [Nat.testBit_xor, sel_xor, Nat.xor_div_two, tabL_xor r]
    generalize sel (a.testBit 0) x = p
    generalize sel (b.testBit 0) x = q
    generalize tabL r (a / 2) = y
    generalize tabL r (b / 2) = z
    rw [Nat.xor_assoc, Nat.xor_assoc, ← Nat.xor_assoc q y z, Nat.xor_comm q y, Nat.xor_assoc]
noncomputable def base3 : List Nat := [170, 204, 240, 136, 160, 192]
noncomputable def base4 : List Nat := [43690, 52428, 61680, 65280, 34952, 41120, 43520, 49344, 52224, 61440]
noncomputable def tab3 (c : Nat) : Nat := tabL base3 c
noncomputable def tab4 (c : Nat) : Nat := tabL base4 c
/-- how many bits are set, of the k lowest -/
noncomputable def popc : Nat → Nat → Nat
  | 0, _ => 0
  | k + 1, x => x % 2 + popc k (x / 2)
noncomputable def pop8 (x : Nat) : Nat := (x * 72340172838076673 &&& 9241421688590303745) % 511
theorem pop8_is : ∀ x, x < 256 → pop8 x = popc 8 x := by decide +kernel
noncomputable def pop16 (x : Nat) : Nat := pop8 (x % 256) + pop8 (x / 256)
theorem popc_split (b : Nat) : ∀ (a x : Nat), popc (a + b) x = popc a (x % 2 ^ a) + popc b (x / 2 ^ a)
  | 0, x => by rw [Nat.zero_add, Nat.pow_zero, Nat.div_one]; exact (Nat.zero_add _).symm
  | a + 1, x => by
    rw [Nat.succ_add_eq_add_succ a b]
    show x % 2 + popc (a + b) (x / 2) = (x % 2 ^ (a + 1)) % 2 + popc a ((x % 2 ^ (a + 1)) / 2) + popc b (x / 2 ^ (a + 1))
    have e0 : (2 : Nat) ^ (a + 1) = 2 * 2 ^ a := Nat.pow_succ'
    rw [popc_split b a, e0, Nat.mod_mul_right_mod, Nat.mod_mul_right_div_self, Nat.div_div_eq_div_mul, Nat.add_assoc]
theorem pop16_is {x : Nat} (h : x < 65536) : pop16 x = popc 16 x := by
  unfold pop16
  rw [pop8_is _ (Nat.mod_lt _ (by decide)), pop8_is _ (Nat.div_lt_of_lt_mul h)]
  exact (popc_split 8 8 x).symm
noncomputable def tots3 : List (Nat × Nat) := [(0, 0), (1, 170), (2, 204), (3, 102), (4, 240), (5, 90), (6, 60), (7, 150)]
noncomputable def tots4 : List (Nat × Nat) := [(0, 0), (1, 43690), (2, 52428), (3, 26214), (4, 61680), (5, 23130), (6, 15420), (7, 38550), (8, 65280), (9, 21930), (10, 13260), (11, 39270), (12, 4080), (13, 42330), (14, 49980), (15, 27030)]
noncomputable def turnsN (v p : Nat) (prs : List (Nat × Nat)) : Nat := prs.foldl (fun t q => t ^^^ (toldN v p q.1 &&& toldN v p q.2)) 0
/-- price = due, at one point -/
noncomputable def okN (pop : Nat → Nat) (v half : Nat) (prs : List (Nat × Nat)) (al : List Nat) (q : Nat × Nat) : Bool :=
  bif al.any (fun y => toldN v q.1 y == 1) then pop (v ^^^ q.2) == half
  else pop (v ^^^ q.2) + half / 2 ^ prs.length == half + turnsN v q.1 prs * (2 * (half / 2 ^ prs.length))
noncomputable def chkN (pop : Nat → Nat) (half sz v : Nat) (start : List Nat) (tots : List (Nat × Nat)) : Bool :=
  match pairN v sz start [] [] with
  | (prs, al) => tots.all (okN pop v half prs al) && ((tots.countP (fun q => Nat.blt (pop (v ^^^ q.2)) half) == (4 ^ prs.length + 2 ^ prs.length) / 2) &&
      ((tots.countP (fun q => Nat.ble (pop (v ^^^ q.2)) half) + (4 ^ prs.length - 2 ^ prs.length) / 2 == 2 * half) && (Nat.ble prs.length 2 &&
      (prs.all (fun q => Nat.blt q.1 (2 * half) && Nat.blt q.2 (2 * half)) && al.all (fun y => Nat.blt y (2 * half))))))
noncomputable def upto (f : Nat → Bool) : Nat → Bool
  | 0 => true
  | n + 1 => f n && upto f n
theorem upto_all {f : Nat → Bool} : ∀ {n : Nat}, upto f n = true → ∀ k, k < n → f k = true
  | n + 1, h, k, hk => by
    unfold upto at h
    rw [Bool.and_eq_true] at h
    by_cases e : k = n
    · rw [e]; exact h.1
    · exact upto_all h.2 k (Nat.lt_of_le_of_ne (Nat.le_of_lt_succ hk) e)
noncomputable def c3 (c : Nat) : Bool := chkN (popc 8) 4 3 (tab3 c) [1, 2, 4] tots3
noncomputable def c4 (c : Nat) : Bool := chkN pop16 8 4 (tab4 c) [1, 2, 4, 8] tots4
theorem c3_all : upto c3 64 = true := by decide +kernel
theorem c4_0 : upto (fun c => c4 (c + 0)) 64 = true := by decide +kernel
theorem c4_1 : upto (fun c => c4 (c + 64)) 64 = true := by decide +kernel
theorem c4_2 : upto (fun c => c4 (c + 128)) 64 = true := by decide +kernel
theorem c4_3 : upto (fun c => c4 (c + 192)) 64 = true := by decide +kernel
theorem c4_4 : upto (fun c => c4 (c + 256)) 64 = true := by decide +kernel
theorem c4_5 : upto (fun c => c4 (c + 320)) 64 = true := by decide +kernel
theorem c4_6 : upto (fun c => c4 (c + 384)) 64 = true := by decide +kernel
theorem c4_7 : upto (fun c => c4 (c + 448)) 64 = true := by decide +kernel
theorem c4_8 : upto (fun c => c4 (c + 512)) 64 = true := by decide +kernel
theorem c4_9 : upto (fun c => c4 (c + 576)) 64 = true := by decide +kernel
theorem c4_10 : upto (fun c => c4 (c + 640)) 64 = true := by decide +kernel
theorem c4_11 : upto (fun c => c4 (c + 704)) 64 = true := by decide +kernel
theorem c4_12 : upto (fun c => c4 (c + 768)) 64 = true := by decide +kernel
theorem c4_13 : upto (fun c => c4 (c + 832)) 64 = true := by decide +kernel
theorem c4_14 : upto (fun c => c4 (c + 896)) 64 = true := by decide +kernel
theorem c4_15 : upto (fun c => c4 (c + 960)) 64 = true := by decide +kernel
theorem c4_row : ∀ k, k < 16 → upto (fun c => c4 (c + 64 * k)) 64 = true
  | 0, _ => c4_0
  | 1, _ => c4_1
  | 2, _ => c4_2
  | 3, _ => c4_3
  | 4, _ => c4_4
  | 5, _ => c4_5
  | 6, _ => c4_6
  | 7, _ => c4_7
  | 8, _ => c4_8
  | 9, _ => c4_9
  | 10, _ => c4_10
  | 11, _ => c4_11
  | 12, _ => c4_12
  | 13, _ => c4_13
  | 14, _ => c4_14
  | 15, _ => c4_15
  | n + 16, h => absurd h (Nat.not_lt_of_le (Nat.le_add_left 16 n))
theorem c4_all (c : Nat) (h : c < 1024) : c4 c = true := by
  have h1 := upto_all (c4_row (c / 64) (Nat.div_lt_of_lt_mul h)) (c % 64) (Nat.mod_lt _ (by decide))
  rwa [Nat.mod_add_div] at h1
end PartQ4
section PartQ5
open PySem PySem.W PySem.Calls PySem.Spec PyProof.Rows
theorem item_xX {i : Int} (h0 : 0 ≤ i) (h1 : i ≤ 1) : Txt.item (Str.ofString "xX") i = Str.ofString "x" ∨ Txt.item (Str.ofString "xX") i = Str.ofString "X" := by
  have h : i = 0 ∨ i = 1 := by omega
  rcases h with rfl | rfl
  · exact .inl (by decide +kernel)
  · exact .inr (by decide +kernel)
theorem foldl_cps (f : Int → Nat) : ∀ (l : List Int) (acc : Array Nat), (List.foldl (fun acc p => acc ++ (Str.ofString "").cps ++ p.cps) acc (l.map fun n => (⟨#[f n]⟩ : Str))).toList = acc.toList ++ l.map f
  | [], acc => by simp
  | x :: r, acc => by
    rw [List.map_cons, List.foldl_cons, foldl_cps f r]
    have e : (Str.ofString "").cps = #[] := by decide +kernel
    rw [e]
    simp
noncomputable def chrOf (n : Int) : Nat := (Txt.charAt (Str.ofString "xX") n).getD 0
theorem item_chr (n : Int) : Txt.item (Str.ofString "xX") n = ⟨#[chrOf n]⟩ := rfl
theorem word_cps (ns : List Int) : (wordOf ns).cps.toList = ns.map chrOf := by
  cases ns with
  | nil => rfl
  | cons x r =>
    have h := foldl_cps chrOf r #[chrOf x]
    unfold wordOf Txt.join Builtin.Str.glued
    simp only [List.map_cons, List.drop_succ_cons, List.drop_zero, List.headD_cons, item_chr]
    exact h
theorem word_len (ns : List Int) : (wordOf ns).length = ns.length := by
  have h := congrArg List.length (word_cps ns)
  rw [List.length_map, Array.length_toList] at h
  exact h
theorem word_item {ns : List Int} {k : Int} (h0 : 0 ≤ k) (h1 : k < (ns.length : Int)) : Txt.item (wordOf ns) k = Txt.item (Str.ofString "xX") (ns.getD k.toNat 0) := by
  rw [item_chr]
  unfold Txt.item Txt.charAt
  have hk : k.toNat < ns.length := by omega
  have e : (wordOf ns).cps[k.toNat]? = some (chrOf (ns.getD k.toNat 0)) := by
    rw [← Array.getElem?_toList, word_cps, List.getElem?_map, List.getD_eq_getElem?_getD, List.getElem?_eq_getElem hk]
    rfl
  have e2 : seqIndex? k (wordOf ns).length = some k.toNat := by
    rw [word_len]
    unfold seqIndex?
    have hk0 : ¬ k < 0 := by omega
    have e3 : (decide (0 ≤ k) && decide (k < (ns.length : Int))) = true := by rw [decide_eq_true h0, decide_eq_true h1]; rfl
    simp only [if_neg hk0]
    rw [if_pos e3]
  rw [e2, Option.bind_some, e]
  rfl
noncomputable def costI (ns : List Int) (tot k : Int) : Int := substI (Txt.item (wordOf ns) k) (Txt.item (Str.ofString "xX") (Builtin.bitAnd (tot.fdiv (2 ^ k.toNat)) 1))
noncomputable def priceI (P : Nat) (ns : List Int) (tot : Int) : Int := (rangeKs 0 P).foldl (fun a k => a + costI ns tot k) 0
theorem subst_bits {a b : Nat} (ha : a < 2) (hb : b < 2) : substI (Txt.item (Str.ofString "xX") (a : Int)) (Txt.item (Str.ofString "xX") (b : Int)) = (((a + b) % 2 : Nat) : Int) := by
  have h : (a = 0 ∨ a = 1) ∧ (b = 0 ∨ b = 1) := by omega
  rcases h with ⟨rfl | rfl, rfl | rfl⟩ <;> decide +kernel
theorem cost_nat {v P t k : Nat} (hk : k < P) : costI (List.map (bitF v) (rangeKs 0 P)) (t : Int) (k : Int) = (((v ^^^ t) / 2 ^ k % 2 : Nat) : Int) := by
  have hl : (List.map (bitF v) (rangeKs 0 P)).length = P := by rw [List.length_map, rangeKs_length]
  unfold costI
  rw [word_item (by omega) (by rw [hl]; omega), Int.toNat_natCast, range_at hk, bitF_nat, fdiv_pow, show (1 : Int) = ((1 : Nat) : Int) from rfl, bitAnd_nat, and_one_mod, subst_bits (by omega) (by omega), Nat.shiftRight_eq_div_pow]
  have h := Nat.xor_div_two_pow (a := v) (b := t) (n := k)
  have h2 := Nat.xor_mod_two_pow (a := v / 2 ^ k) (b := t / 2 ^ k) (n := 1)
  rw [Nat.pow_one] at h2
  rw [h, h2]
  have h3 : v / 2 ^ k % 2 < 2 := Nat.mod_lt _ (by decide)
  have h4 : t / 2 ^ k % 2 < 2 := Nat.mod_lt _ (by decide)
  generalize v / 2 ^ k % 2 = a at *
  generalize t / 2 ^ k % 2 = b at *
  have h5 : (a = 0 ∨ a = 1) ∧ (b = 0 ∨ b = 1) := by omega
  rcases h5 with ⟨rfl | rfl, rfl | rfl⟩ <;> rfl
theorem popc_succ : ∀ (k x : Nat), popc (k + 1) x = popc k x + x / 2 ^ k % 2
  | 0, x => by simp [popc]
  | k + 1, x => by
    have h := popc_succ k (x / 2)
    rw [Nat.div_div_eq_div_mul, show 2 * 2 ^ k = 2 ^ (k + 1) from Nat.pow_succ'.symm] at h
    show x % 2 + popc (k + 1) (x / 2) = x % 2 + popc k (x / 2) + x / 2 ^ (k + 1) % 2
    omega
theorem price_part {v P t : Nat} : ∀ j, j ≤ P → (rangeKs 0 j).foldl (fun a k => a + costI (List.map (bitF v) (rangeKs 0 P)) (t : Int) k) 0 = ((popc j (v ^^^ t) : Nat) : Int)
  | 0, _ => rfl
  | j + 1, h => by
    have e : rangeKs 0 (j + 1) = rangeKs 0 j ++ [(j : Int)] := by
      unfold rangeKs
      rw [List.range_succ, List.map_append]
      simp
    rw [e, List.foldl_append, price_part j (by omega), List.foldl_cons, List.foldl_nil, cost_nat (by omega), popc_succ]
    omega
theorem price_nat (P v t : Nat) : priceI P (List.map (bitF v) (rangeKs 0 P)) (t : Int) = ((popc P (v ^^^ t) : Nat) : Int) := price_part P (Nat.le_refl P)
end PartQ5
section PartQ6
open PySem PySem.W PySem.Calls PySem.Spec PyProof.Rows
theorem ins_le {a x : Int} {r : List Int} (h : a ≤ x) : insI (a :: r) x = a :: insI r x := by
  unfold insI
  rw [List.countP_cons_of_pos (by simpa using h), List.take_succ_cons, List.drop_succ_cons, List.cons_append]
theorem ins_gt {x : Int} {l : List Int} (h : ∀ y ∈ l, x < y) : insI l x = x :: l := by
  unfold insI
  have e : l.countP (fun a => decide (a ≤ x)) = 0 := by
    rw [List.countP_eq_zero]
    intro y hy hd
    have := h y hy
    have := of_decide_eq_true hd
    omega
  rw [e]
  rfl
theorem ins_sorted {x : Int} : ∀ {l : List Int}, List.Pairwise (· ≤ ·) l → List.Pairwise (· ≤ ·) (insI l x) ∧ ∀ y ∈ insI l x, y = x ∨ y ∈ l
  | [], _ => by
    rw [ins_gt (l := []) (by intro y hy; cases hy)]
    exact ⟨List.pairwise_singleton _ _, fun y hy => .inl (List.mem_singleton.mp hy)⟩
  | a :: r, h => by
    obtain ⟨h1, h2⟩ := List.pairwise_cons.mp h
    by_cases hc : a ≤ x
    · obtain ⟨i1, i2⟩ := ins_sorted (x := x) h2
      rw [ins_le hc]
      refine ⟨List.pairwise_cons.mpr ⟨fun y hy => ?_, i1⟩, fun y hy => ?_⟩
      · rcases i2 y hy with e | hy
        · rw [e]; exact hc
        · exact h1 y hy
      · rcases List.mem_cons.mp hy with e | hy
        · exact .inr (e ▸ .head _)
        · rcases i2 y hy with e | hy
          · exact .inl e
          · exact .inr (.tail _ hy)
    · have hg : ∀ y ∈ a :: r, x < y := fun y hy => by
        rcases List.mem_cons.mp hy with e | hy
        · omega
        · have := h1 y hy; omega
      rw [ins_gt hg]
      refine ⟨List.pairwise_cons.mpr ⟨fun y hy => Int.le_of_lt (hg y hy), h⟩, fun y hy => ?_⟩
      rcases List.mem_cons.mp hy with e | hy
      · exact .inl e
      · exact .inr hy
theorem srt_of {l : List Int} (h : List.Pairwise (· ≤ ·) l) : Srt l := by
  intro i j hij hj
  have hi : i < l.length := by omega
  rw [List.getD_eq_getElem?_getD, List.getD_eq_getElem?_getD, List.getElem?_eq_getElem hi, List.getElem?_eq_getElem hj]
  show l[i] ≤ l[j]
  rcases Nat.lt_or_ge i j with h1 | h1
  · exact List.pairwise_iff_getElem.mp h i j hi hj h1
  · have e : i = j := by omega
    subst e
    exact Int.le_refl _
theorem ins_length (l : List Int) (x : Int) : (insI l x).length = l.length + 1 := by
  have hc : l.countP (fun a => decide (a ≤ x)) ≤ l.length := List.countP_le_length
  unfold insI
  rw [List.length_append, List.length_take, List.length_cons, List.length_drop]
  omega
theorem ins_countP (q : Int → Bool) (l : List Int) (x : Int) : (insI l x).countP q = l.countP q + (if q x = true then 1 else 0) := by
  unfold insI
  generalize l.countP (fun a => decide (a ≤ x)) = c
  have h := congrArg (List.countP q) (List.take_append_drop c l)
  rw [List.countP_append] at h
  rw [List.countP_append, List.countP_cons]
  omega
/-- the row of prices, sorted -/
noncomputable def lineF (f : Nat → Int) : Nat → List Int
  | 0 => []
  | i + 1 => insI (lineF f i) (f i)
theorem line_sorted (f : Nat → Int) : ∀ i, List.Pairwise (· ≤ ·) (lineF f i)
  | 0 => List.Pairwise.nil
  | i + 1 => (ins_sorted (line_sorted f i)).1
theorem line_length (f : Nat → Int) : ∀ i, (lineF f i).length = i
  | 0 => rfl
  | i + 1 => by unfold lineF; rw [ins_length, line_length f i]
theorem line_countP (f : Nat → Int) (q : Int → Bool) : ∀ i, (lineF f i).countP q = ((List.range i).map f).countP q
  | 0 => rfl
  | i + 1 => by
    unfold lineF
    rw [ins_countP, line_countP f q i, List.range_succ, List.map_append, List.countP_append, List.map_singleton, List.countP_singleton]
end PartQ6
section PartG1
open PySem PySem.W PySem.Calls PySem.Spec PyProof.Rows
theorem sep3 {h₀ h h1 : Heap} {L : Addr} {news led : List (Addr × Obj)} {o : Obj} (N : News h₀ L h news) (hl : ∀ q ∈ led, h1.get? q.1 = some q.2 ∧ h.get? q.1 = none) (h3 : (L + 1 + 1 + 1, o) ∈ news) : ∀ q ∈ led, @Ne Nat (L + 1 + 1 + 1) q.1 := fun q hq => fresh_sep N (hl q hq).2 _ h3
theorem fresh_led {h₀ h : Heap} {L : Addr} {news tl : List (Addr × Obj)} {a b c : Addr × Obj} {h1 : Heap} {m : Str → Option Value} (N : News h₀ L h news) (F : Fr h₀ L h1 m) (hl : ∀ q ∈ a :: b :: c :: tl, h.get? q.1 = some q.2 ∧ h1.get? q.1 = none) : News h₀ L h (a :: b :: c :: (news ++ tl)) := fun q hq => by
  have key := List.mem_append.mp (sub_app (l' := (a :: b :: c :: tl) ++ news) (by (k_extra "mine:sub")) hq)
  rcases key with hq | hq
  · exact ⟨(hl q hq).1, (fresh_of F (hl q hq).2).1, (fresh_of F (hl q hq).2).2⟩
  · exact N q hq
noncomputable def SepAt (P : Addr) (l : List (Addr × Obj)) : Prop := ∀ q ∈ l, @Ne Nat q.1 P
theorem sepat {h₀ h : Heap} {L P : Addr} {a a1 a2 a3 a4 a5 a6 a7 a8 : Addr × Obj} {tl : List (Addr × Obj)} (N : News h₀ L h [a1, a2, a3, a4, a5, a6, a7, a8]) (hP : h.get? P = none) (ha : @Ne Nat a.1 P) (ht : ∀ q ∈ tl, @Ne Nat q.1 P) : SepAt P (a :: a1 :: a2 :: a3 :: a4 :: a6 :: a8 :: tl) := fun q hq => by
  have h := fresh_sep N hP
  simp only [List.mem_cons] at hq
  rcases hq with rfl | rfl | rfl | rfl | rfl | rfl | rfl | hq
  · exact ha
  · exact h _ (by simp)
  · exact h _ (by simp)
  · exact h _ (by simp)
  · exact h _ (by simp)
  · exact h _ (by simp)
  · exact h _ (by simp)
  · exact ht q hq
section
variable {w : World} {s : Shared} {h₀ : Heap} {L fa VL TT : Addr} {m mg mb : Str → Option Value} {p : Program} {loose : List Str} {mean : ExcName → Option Value} {cd : Value} {o3 o4 o5 oz o38 o45 oT : Obj}
    {st : List Stmt} {sc : Scope} {Q : Flow → Shared → Prop} {tz : Tok} {vv : List Value} {ns : List Int}
theorem words_G1_1 : True := by
  k_with "call ref" => ((k_here; k_dflt ( (show wpAny _ _ (call (Value.ref 148) _) _ _ _); (rename (∀ x y : Int, _ → _ → _) => hxb9); (rename News _ _ _ _ => kN9); (rename IntsAre vv ns => kI9); (rename List.length ns = _ => kL9); (refine' use_specX (X := []) (rest := [(TT, oT), (VL, LCg.lst vv), (38, o38), (45, o45), (L + 1 + 1 + 1 + 1 + 1, o5), (L + 1 + 1 + 1 + 1, o4), (L + 1 + 1 + 1, o3), (L + 1, oz)]) ?FW7 ?NW7 ?hXW7 ?hrW7 (spec_paired3 (vs := vv) (ns := ns) ?BW7 ?F1W7 ?XW7 ?TW7 ?hkW7 ?dW7 ?uW7 ?hlW7 kI9 kL9 hxb9) ?_); (case FW7 => k_asm); (case NW7 => k_asm); (case hXW7 => exact (fun _ h => nomatch h)); (case hrW7 => exact (fun q hq => ⟨hq, List.not_mem_nil⟩)); (case BW7 => k_asm); (case F1W7 => k_asm); (case XW7 => k_asm); (case TW7 => k_asm); (case hkW7 => rfl); (case dW7 => ktr_room); (case uW7 => ktr_units); (case hlW7 => exact ledger_lst kN9 (by k_mem)); (intro vq9 hq9 tkq9 Fq9 Nq9 Eq9 qq9; (obtain ⟨Rq9, Aq9, Pq9, avq9, pvq9, alq9, prsq9, kaq9, kpq9, tlq9, qq9, hRq9, hIaq9, halq9, hPq9, hapq9, htpq9, hqq9⟩ := qq9); subst qq9; (have hsPq9 := sepat (a := (Aq9, W.listOf avq9.toArray kaq9)) kN9 (hqq9 _ (.tail _ (.tail _ (.head _)))).2 hapq9 htpq9); clear hapq9 htpq9; (have hsAq9 := sep3 kN9 hqq9 (by k_mem)); (clear Eq9);  (replace Nq9 := fresh_led Nq9 (by assumption) hqq9); clear hqq9; (try simp only [List.cons_append, List.nil_append] at Nq9)); (try k_sweep))))
  trivial
set_option maxHeartbeats 4000000 in
theorem segF3 (he : lawSeg 16 3 = some (st, sc))
    (B : Below callerA h₀ [] h₀) (X : (hd.heap_1 w.params).In h₀) (T : Top p loose mean mg mb h₀) (cz : oz.data = .cell (some (.int 3 tz))) (cv : o4.data = .cell (some (.ref VL)))
    (hIv : IntsAre vv ns) (hns : ns.length = 8) (hxb : ∀ x y : Int, 0 ≤ x ∧ x < (ns.length : Int) → 0 ≤ y ∧ y < (ns.length : Int) → 0 ≤ Builtin.bitXor x y ∧ Builtin.bitXor x y < (ns.length : Int))
    (F : Fr h₀ L s.heap m) (N : News h₀ L s.heap [(TT, oT), (VL, LCg.lst vv), (38, o38), (45, o45), (L + 1 + 1 + 1 + 1 + 1, o5), (L + 1 + 1 + 1 + 1, o4), (L + 1 + 1 + 1, o3), (L + 1, oz)])
    (kk : ∀ (LN A P : Addr) (av pv : List Value) (al : List Int) (prs : List (Int × Int)) (ka kp : Nat) (tl : List (Addr × Obj)) (th : Tok) (h' : Heap) (tk : Nat) (m' : Str → Option Value), pairF ns 3 [1, 2, 4] [] [] = (prs, al) → IntsAre av al → al.length ≤ 4 → PrsIs pv prs tl →
      m' (Str.ofString "pairs") = some (.ref P) → m' (Str.ofString "alone") = some (.ref A) → m' (Str.ofString "half") = some (.int 4 th) → m' (Str.ofString "line") = some (.ref LN) → m' (Str.ofString "word") = m (Str.ofString "word") → m' (Str.ofString "totals") = m (Str.ofString "totals") →
      (∀ q ∈ (A, W.listOf av.toArray ka) :: (P, W.listOf pv.toArray kp) :: tl, @Ne Nat (L + 1 + 1 + 1) q.1) → SepAt P ((A, W.listOf av.toArray ka) :: (TT, oT) :: (VL, LCg.lst vv) :: (38, o38) :: (45, o45) :: (L + 1 + 1 + 1 + 1, o4) :: (L + 1, oz) :: tl) → (∀ q ∈ (A, W.listOf av.toArray ka) :: (P, W.listOf pv.toArray kp) :: (TT, oT) :: (VL, LCg.lst vv) :: (38, o38) :: (45, o45) :: (L + 1 + 1 + 1 + 1, o4) :: (L + 1 + 1 + 1, o3) :: (L + 1, oz) :: tl, @LT.lt Nat _ q.1 LN) → Fr h₀ L h' m' →
      News h₀ L h' ((LN, W.listOf #[] 0) :: (A, W.listOf av.toArray ka) :: (P, W.listOf pv.toArray kp) :: (TT, oT) :: (VL, LCg.lst vv) :: (38, o38) :: (45, o45) :: (L + 1 + 1 + 1 + 1, o4) :: (L + 1 + 1 + 1, o3) :: (L + 1, oz) :: tl) → Q .next { s with heap := h', toks := tk }) :
    wpAny (model Challenge.rw_sn0075_01.row.prog w) (callerA.deeper (envOfC (Str.ofString "law") sc L fa cd)) (execs st (envOfC (Str.ofString "law") sc L fa cd)) Q (fun _ _ => False) s := by
  revert X; k_fill; intro X
  have he2 : lawSeg 16 3 = some ([_, _, _], _) := rfl
  rw [he] at he2
  cases he2
  clear he
  repeat (first | (dsimp only; walk1) | walk1)
  (rename Fr _ _ _ _ => kF); (rename News _ _ _ _ => kN); (rename (pairF _ _ _ _ _ = _) => kR); (rename IntsAre _ _ => kI); (rename PrsIs _ _ _ => kP); (rename (List.length _ ≤ 4) => k4)
  (rename SepAt _ _ => kS2); (rename (∀ q, q ∈ _ → @Ne Nat _ _) => kS)
  rw [show ((2 : Int) ^ Int.toNat (3 - 1)) = 4 from by decide +kernel] at kF
  refine' kk _ _ _ _ _ _ _ _ _ _ _ _ _ _ kR kI k4 kP ?y1 ?y2 ?y3 ?y4 ?y5 ?y6 (fun q hq => kS q (.tail _ hq)) ?sp ?l1 kF ?y7
  case sp => exact kS2
  case y1 => exact rfl
  case y2 => exact rfl
  case y3 => exact rfl
  case y4 => exact rfl
  case y5 => exact rfl
  case y6 => exact rfl
  case y7 => exact fun q hq => kN q (by
    exact sub_app (by (k_extra "mine:sub")) hq)
  case l1 =>
    (rename (@LT.lt Nat _ _ _ ∧ _) => kL)
    obtain ⟨a1, a2, a3, a4, a5, a6, a7, a8, a9, a10, a11, a12⟩ := kL
    intro q hq
    simp only [List.mem_cons] at hq
    rcases hq with rfl | rfl | rfl | rfl | rfl | rfl | rfl | rfl | rfl | hq
    · exact a2
    · exact a3
    · exact a4
    · exact a5
    · exact a6
    · exact a7
    · exact a9
    · exact a10
    · exact a11
    · exact ktn_ltOf a12 q hq
end
end PartG1
section PartG1b
theorem base_G1b : True := by
  w_top off
  k_with_none
  k_with "mine:step" => ((first | (k_unfold; (try dsimp only)) | (k_end; wrow_close) | walk1 | (dsimp only; walk1) | (leave1; walk_say "STEP leave1"; try dsimp only) | fail "no step"))
  k_with "storeName" => ((k_here; k_dflt (first | (refine' storeI ?FW7 ?NW7 ?_ ?aW7 ?bW7; (case FW7 => k_asm); (case NW7 => k_asm); (case aW7 => rfl); (case bW7 => rfl); k_whole; intro hq9 tq9 tkq9 Fq9 Nq9; (try k_sweep)) | (refine' storeU ?FW7 ?NW7 ?_ ?aW7 ?bW7; (case FW7 => k_asm); (case NW7 => k_asm); (case aW7 => rfl); (case bW7 => rfl); k_whole; intro hq9 tkq9 Fq9 Nq9; (try k_sweep)))))
  k_with "mine:pj" => (((rename (_ ∧ _) => z); first | exact z.1 | exact Zs z.1 | exact Zl z.1 | exact Zg z.1 | exact z.2 | exact Zs z.2 | exact Zl z.2 | exact Zg z.2 | exact z.2.1 | exact Zs z.2.1 | exact Zl z.2.1 | exact Zg z.2.1 | exact z.2.2 | exact Zs z.2.2 | exact Zl z.2.2 | exact Zg z.2.2 | exact z.2.2.1 | exact Zs z.2.2.1 | exact Zl z.2.2.1 | exact Zg z.2.2.1 | exact z.2.2.2 | exact Zs z.2.2.2 | exact Zl z.2.2.2 | exact Zg z.2.2.2 | exact z.2.2.2.1 | exact Zs z.2.2.2.1 | exact Zl z.2.2.2.1 | exact Zg z.2.2.2.1 | exact z.2.2.2.2 | exact Zs z.2.2.2.2 | exact Zl z.2.2.2.2 | exact Zg z.2.2.2.2 | exact z.2.2.2.2.1 | exact Zs z.2.2.2.2.1 | exact Zl z.2.2.2.2.1 | exact Zg z.2.2.2.2.1 | exact z.2.2.2.2.2 | exact Zs z.2.2.2.2.2 | exact Zl z.2.2.2.2.2 | exact Zg z.2.2.2.2.2 | exact z.2.2.2.2.2.1 | exact Zs z.2.2.2.2.2.1 | exact Zl z.2.2.2.2.2.1 | exact Zg z.2.2.2.2.2.1 | exact z.2.2.2.2.2.2 | exact Zs z.2.2.2.2.2.2 | exact Zl z.2.2.2.2.2.2 | exact Zg z.2.2.2.2.2.2 | exact z.2.2.2.2.2.2.1 | exact Zs z.2.2.2.2.2.2.1 | exact Zl z.2.2.2.2.2.2.1 | exact Zg z.2.2.2.2.2.2.1 | exact z.2.2.2.2.2.2.2 | exact Zs z.2.2.2.2.2.2.2 | exact Zl z.2.2.2.2.2.2.2 | exact Zg z.2.2.2.2.2.2.2 | exact z.2.2.2.2.2.2.2.1 | exact Zs z.2.2.2.2.2.2.2.1 | exact Zl z.2.2.2.2.2.2.2.1 | exact Zg z.2.2.2.2.2.2.2.1 | exact z.2.2.2.2.2.2.2.2 | exact Zs z.2.2.2.2.2.2.2.2 | exact Zl z.2.2.2.2.2.2.2.2 | exact Zg z.2.2.2.2.2.2.2.2 | exact z.2.2.2.2.2.2.2.2.1 | exact Zs z.2.2.2.2.2.2.2.2.1 | exact Zl z.2.2.2.2.2.2.2.2.1 | exact Zg z.2.2.2.2.2.2.2.2.1 | exact z.2.2.2.2.2.2.2.2.2.1 | exact Zs z.2.2.2.2.2.2.2.2.2.1 | exact Zl z.2.2.2.2.2.2.2.2.2.1 | exact Zg z.2.2.2.2.2.2.2.2.2.1 | exact z.2.2.2.2.2.2.2.2.2.2.1 | exact Zs z.2.2.2.2.2.2.2.2.2.2.1 | exact Zl z.2.2.2.2.2.2.2.2.2.2.1 | exact Zg z.2.2.2.2.2.2.2.2.2.2.1 | exact z.2.2.2.2.2.2.2.2.2.2.2.1 | exact Zs z.2.2.2.2.2.2.2.2.2.2.2.1 | exact Zl z.2.2.2.2.2.2.2.2.2.2.2.1 | exact Zg z.2.2.2.2.2.2.2.2.2.2.2.1 | exact z.2.2.2.2.2.2.2.2.2.2.2.2.1 | exact Zs z.2.2.2.2.2.2.2.2.2.2.2.2.1 | exact Zl z.2.2.2.2.2.2.2.2.2.2.2.2.1 | exact Zg z.2.2.2.2.2.2.2.2.2.2.2.2.1 | exact z.2.2.2.2.2.2.2.2.2.2.2.2.2.1 | exact Zs z.2.2.2.2.2.2.2.2.2.2.2.2.2.1 | exact Zl z.2.2.2.2.2.2.2.2.2.2.2.2.2.1 | exact Zg z.2.2.2.2.2.2.2.2.2.2.2.2.2.1 | (clear z; (k_extra "mine:pj"))))
  k_with "mine:ne" => (first | (with_reducible assumption) | exact Ne.symm (by with_reducible assumption) | exact ne_lt (by with_reducible assumption) | exact ne_gt (by with_reducible assumption) | exact ne_lt (lt_led (by with_reducible assumption) (by k_mem)) | exact ne_gt (lt_led (by with_reducible assumption) (by k_mem)) | ((try dsimp only); with_reducible (k_extra "mine:pj")) | assumption | exact Nat.ne_of_lt (Nat.lt_succ_self _) | exact Nat.ne_of_gt (Nat.lt_succ_self _) | (walk_say "K_NE OMEGA"; refine neN ?_; (try dsimp only); omega))
  k_with "mine:nes" => (first | (refine And.intro ?_ ?_ <;> (k_extra "mine:nes")) | k_ne)
  k_with "mine:in" => (first | (with_reducible exact List.mem_cons_self) | (with_reducible assumption) | ((with_reducible refine List.mem_cons_of_mem _ ?_); (k_extra "mine:in")) | exact List.mem_cons_self | (refine List.mem_cons_of_mem _ ?_; (k_extra "mine:in")) | (refine List.mem_append_left _ ?_; (k_extra "mine:in")) | (refine List.mem_append_right _ ?_; (k_extra "mine:in")))
  k_with "mine:sub" => (first | (with_reducible exact sub_id) | (with_reducible exact sub_nil) | ((with_reducible refine sub_cons ?haW7 ?hbW7); (case haW7 => (k_extra "mine:in")); (case hbW7 => (k_extra "mine:sub"))) | ((with_reducible refine sub_both ?haW7 ?hbW7); (case haW7 => (k_extra "mine:sub")); (case hbW7 => (k_extra "mine:sub"))) | ((with_reducible refine sub_skip ?_); (k_extra "mine:sub")) | ((with_reducible refine sub_right ?_); (k_extra "mine:sub")) | ((with_reducible refine sub_left ?_); (k_extra "mine:sub")) | (simp only [List.nil_append, List.cons_append]; (k_extra "mine:sub")))
  k_with "mine:keys" => (first | (k_dflt (exact keys_of rfl rfl)) | (walk_say "K_KEYS LONG"; repeat (first | exact True.intro | refine And.intro ⟨_, _, rfl, rfl⟩ ?_)))
  k_with "mine:enter0" => ((refine' enter0 ?k1W7 ?k2W7 ?k3W7 ?k4W7 ?kKW7 ?k8W7 ?k6W7 ?k7W7 ?k9W7 ?kBW7 ?_ ?c2W7 ?c3W7 ?c4W7 ?c5W7; (case kKW7 => assumption); (case k1W7 => k_asm); (case k2W7 => k_asm); (case k3W7 => k_asm); (case k4W7 => k_asm); (case k6W7 => k_is); (case k7W7 => k_is); (case k8W7 => ktr_room); (case k9W7 => exact BindsTo.of_eq rfl); (case c5W7 => decide); (case kBW7 => exact locs rfl); (case c2W7 => exact rfl); (case c3W7 => exact rfl); (case c4W7 => exact rfl); k_whole; intro Lq9 hq9 tkq9 Fq9 Nq9 Bq9 Xq9 Tq9; (try dsimp only); (try k_fold)))
  k_with "mine:ret" => (((all_goals (try dsimp only)); (all_goals (try k_unfold)); (all_goals (try dsimp only))))
  k_with "mine:same" => (first | exact fun _ _ => rfl | exact fun _ _ _ => rfl | exact same_fg | exact same_fgN | (refine same_upY ?_; (k_extra "mine:same")) | (refine same_up (by rfl) ?_; (k_extra "mine:same")) | (refine same_upN (by rfl) ?_; (k_extra "mine:same")) | (intros; (try dsimp only [forget, up]); (repeat' split); all_goals first | rfl | (exfalso; subst_vars; (rename (List.contains _ _ = false) => hz9); (revert hz9); decide) | (exfalso; (rename (List.contains _ _ = false) => hz9); (rename (List.contains _ _ = true) => hz8); rw [hz9] at hz8; exact Bool.noConfusion hz8) | (exfalso; subst_vars; contradiction)))
  trivial
open PySem PySem.W PySem.Calls PySem.Spec PyProof.Rows
section
variable {w : World} {s : Shared} {h₀ : Heap} {L fa VL TT : Addr} {m mg mb : Str → Option Value} {p : Program} {loose : List Str} {mean : ExcName → Option Value} {cd : Value} {o3 o4 o5 oz o38 o45 oT : Obj}
    {st : List Stmt} {sc : Scope} {Q : Flow → Shared → Prop} {tz : Tok} {vv : List Value} {ns : List Int}
theorem words_G1b_1 : True := by
  k_with "call ref" => ((k_here; k_dflt ( (show wpAny _ _ (call (Value.ref 148) _) _ _ _); (rename (∀ x y : Int, _ → _ → _) => hxb9); (rename News _ _ _ _ => kN9); (rename IntsAre vv ns => kI9); (rename List.length ns = _ => kL9); (refine' use_specX (X := []) (rest := [(TT, oT), (VL, LCg.lst vv), (38, o38), (45, o45), (L + 1 + 1 + 1 + 1 + 1, o5), (L + 1 + 1 + 1 + 1, o4), (L + 1 + 1 + 1, o3), (L + 1, oz)]) ?FW7 ?NW7 ?hXW7 ?hrW7 (spec_paired4 (vs := vv) (ns := ns) ?BW7 ?F1W7 ?XW7 ?TW7 ?hkW7 ?dW7 ?uW7 ?hlW7 kI9 kL9 hxb9) ?_); (case FW7 => k_asm); (case NW7 => k_asm); (case hXW7 => exact (fun _ h => nomatch h)); (case hrW7 => exact (fun q hq => ⟨hq, List.not_mem_nil⟩)); (case BW7 => k_asm); (case F1W7 => k_asm); (case XW7 => k_asm); (case TW7 => k_asm); (case hkW7 => rfl); (case dW7 => ktr_room); (case uW7 => ktr_units); (case hlW7 => exact ledger_lst kN9 (by k_mem)); (intro vq9 hq9 tkq9 Fq9 Nq9 Eq9 qq9; (obtain ⟨Rq9, Aq9, Pq9, avq9, pvq9, alq9, prsq9, kaq9, kpq9, tlq9, qq9, hRq9, hIaq9, halq9, hPq9, hapq9, htpq9, hqq9⟩ := qq9); subst qq9; (have hsPq9 := sepat (a := (Aq9, W.listOf avq9.toArray kaq9)) kN9 (hqq9 _ (.tail _ (.tail _ (.head _)))).2 hapq9 htpq9); clear hapq9 htpq9; (have hsAq9 := sep3 kN9 hqq9 (by k_mem)); (clear Eq9);  (replace Nq9 := fresh_led Nq9 (by assumption) hqq9); clear hqq9; (try simp only [List.cons_append, List.nil_append] at Nq9)); (try k_sweep))))
  trivial
set_option maxHeartbeats 4000000 in
theorem segF4 (he : lawSeg 16 3 = some (st, sc))
    (B : Below callerA h₀ [] h₀) (X : (hd.heap_1 w.params).In h₀) (T : Top p loose mean mg mb h₀) (cz : oz.data = .cell (some (.int 4 tz))) (cv : o4.data = .cell (some (.ref VL)))
    (hIv : IntsAre vv ns) (hns : ns.length = 16) (hxb : ∀ x y : Int, 0 ≤ x ∧ x < (ns.length : Int) → 0 ≤ y ∧ y < (ns.length : Int) → 0 ≤ Builtin.bitXor x y ∧ Builtin.bitXor x y < (ns.length : Int))
    (F : Fr h₀ L s.heap m) (N : News h₀ L s.heap [(TT, oT), (VL, LCg.lst vv), (38, o38), (45, o45), (L + 1 + 1 + 1 + 1 + 1, o5), (L + 1 + 1 + 1 + 1, o4), (L + 1 + 1 + 1, o3), (L + 1, oz)])
    (kk : ∀ (LN A P : Addr) (av pv : List Value) (al : List Int) (prs : List (Int × Int)) (ka kp : Nat) (tl : List (Addr × Obj)) (th : Tok) (h' : Heap) (tk : Nat) (m' : Str → Option Value), pairF ns 4 [1, 2, 4, 8] [] [] = (prs, al) → IntsAre av al → al.length ≤ 4 → PrsIs pv prs tl →
      m' (Str.ofString "pairs") = some (.ref P) → m' (Str.ofString "alone") = some (.ref A) → m' (Str.ofString "half") = some (.int 8 th) → m' (Str.ofString "line") = some (.ref LN) → m' (Str.ofString "word") = m (Str.ofString "word") → m' (Str.ofString "totals") = m (Str.ofString "totals") →
      (∀ q ∈ (A, W.listOf av.toArray ka) :: (P, W.listOf pv.toArray kp) :: tl, @Ne Nat (L + 1 + 1 + 1) q.1) → SepAt P ((A, W.listOf av.toArray ka) :: (TT, oT) :: (VL, LCg.lst vv) :: (38, o38) :: (45, o45) :: (L + 1 + 1 + 1 + 1, o4) :: (L + 1, oz) :: tl) → (∀ q ∈ (A, W.listOf av.toArray ka) :: (P, W.listOf pv.toArray kp) :: (TT, oT) :: (VL, LCg.lst vv) :: (38, o38) :: (45, o45) :: (L + 1 + 1 + 1 + 1, o4) :: (L + 1 + 1 + 1, o3) :: (L + 1, oz) :: tl, @LT.lt Nat _ q.1 LN) → Fr h₀ L h' m' →
      News h₀ L h' ((LN, W.listOf #[] 0) :: (A, W.listOf av.toArray ka) :: (P, W.listOf pv.toArray kp) :: (TT, oT) :: (VL, LCg.lst vv) :: (38, o38) :: (45, o45) :: (L + 1 + 1 + 1 + 1, o4) :: (L + 1 + 1 + 1, o3) :: (L + 1, oz) :: tl) → Q .next { s with heap := h', toks := tk }) :
    wpAny (model Challenge.rw_sn0075_01.row.prog w) (callerA.deeper (envOfC (Str.ofString "law") sc L fa cd)) (execs st (envOfC (Str.ofString "law") sc L fa cd)) Q (fun _ _ => False) s := by
  revert X; k_fill; intro X
  have he2 : lawSeg 16 3 = some ([_, _, _], _) := rfl
  rw [he] at he2
  cases he2
  clear he
  repeat (first | (dsimp only; walk1) | walk1)
  (rename Fr _ _ _ _ => kF); (rename News _ _ _ _ => kN); (rename (pairF _ _ _ _ _ = _) => kR); (rename IntsAre _ _ => kI); (rename PrsIs _ _ _ => kP); (rename (List.length _ ≤ 4) => k4)
  (rename SepAt _ _ => kS2); (rename (∀ q, q ∈ _ → @Ne Nat _ _) => kS)
  rw [show ((2 : Int) ^ Int.toNat (4 - 1)) = 8 from by decide +kernel] at kF
  refine' kk _ _ _ _ _ _ _ _ _ _ _ _ _ _ kR kI k4 kP ?y1 ?y2 ?y3 ?y4 ?y5 ?y6 (fun q hq => kS q (.tail _ hq)) ?sp ?l1 kF ?y7
  case sp => exact kS2
  case y1 => exact rfl
  case y2 => exact rfl
  case y3 => exact rfl
  case y4 => exact rfl
  case y5 => exact rfl
  case y6 => exact rfl
  case y7 => exact fun q hq => kN q (by
    exact sub_app (by (k_extra "mine:sub")) hq)
  case l1 =>
    (rename (@LT.lt Nat _ _ _ ∧ _) => kL)
    obtain ⟨a1, a2, a3, a4, a5, a6, a7, a8, a9, a10, a11, a12⟩ := kL
    intro q hq
    simp only [List.mem_cons] at hq
    rcases hq with rfl | rfl | rfl | rfl | rfl | rfl | rfl | rfl | rfl | hq
    · exact a2
    · exact a3
    · exact a4
    · exact a5
    · exact a6
    · exact a7
    · exact a9
    · exact a10
    · exact a11
    · exact ktn_ltOf a12 q hq
end
end PartG1b
section PartG2
theorem base_G2 : True := by
  w_top off
  k_with_none
  k_with "mine:step" => ((first | (k_unfold; (try dsimp only)) | (k_end; wrow_close) | walk1 | (dsimp only; walk1) | (leave1; walk_say "STEP leave1"; try dsimp only) | fail "no step"))
  k_with "storeName" => ((k_here; k_dflt (first | (refine' storeI ?FW7 ?NW7 ?_ ?aW7 ?bW7; (case FW7 => k_asm); (case NW7 => k_asm); (case aW7 => rfl); (case bW7 => rfl); k_whole; intro hq9 tq9 tkq9 Fq9 Nq9; (try k_sweep)) | (refine' storeU ?FW7 ?NW7 ?_ ?aW7 ?bW7; (case FW7 => k_asm); (case NW7 => k_asm); (case aW7 => rfl); (case bW7 => rfl); k_whole; intro hq9 tkq9 Fq9 Nq9; (try k_sweep)))))
  k_with "mine:pj" => (((rename (_ ∧ _) => z); first | exact z.1 | exact Zs z.1 | exact Zl z.1 | exact Zg z.1 | exact z.2 | exact Zs z.2 | exact Zl z.2 | exact Zg z.2 | exact z.2.1 | exact Zs z.2.1 | exact Zl z.2.1 | exact Zg z.2.1 | exact z.2.2 | exact Zs z.2.2 | exact Zl z.2.2 | exact Zg z.2.2 | exact z.2.2.1 | exact Zs z.2.2.1 | exact Zl z.2.2.1 | exact Zg z.2.2.1 | exact z.2.2.2 | exact Zs z.2.2.2 | exact Zl z.2.2.2 | exact Zg z.2.2.2 | exact z.2.2.2.1 | exact Zs z.2.2.2.1 | exact Zl z.2.2.2.1 | exact Zg z.2.2.2.1 | exact z.2.2.2.2 | exact Zs z.2.2.2.2 | exact Zl z.2.2.2.2 | exact Zg z.2.2.2.2 | exact z.2.2.2.2.1 | exact Zs z.2.2.2.2.1 | exact Zl z.2.2.2.2.1 | exact Zg z.2.2.2.2.1 | exact z.2.2.2.2.2 | exact Zs z.2.2.2.2.2 | exact Zl z.2.2.2.2.2 | exact Zg z.2.2.2.2.2 | exact z.2.2.2.2.2.1 | exact Zs z.2.2.2.2.2.1 | exact Zl z.2.2.2.2.2.1 | exact Zg z.2.2.2.2.2.1 | exact z.2.2.2.2.2.2 | exact Zs z.2.2.2.2.2.2 | exact Zl z.2.2.2.2.2.2 | exact Zg z.2.2.2.2.2.2 | exact z.2.2.2.2.2.2.1 | exact Zs z.2.2.2.2.2.2.1 | exact Zl z.2.2.2.2.2.2.1 | exact Zg z.2.2.2.2.2.2.1 | exact z.2.2.2.2.2.2.2 | exact Zs z.2.2.2.2.2.2.2 | exact Zl z.2.2.2.2.2.2.2 | exact Zg z.2.2.2.2.2.2.2 | exact z.2.2.2.2.2.2.2.1 | exact Zs z.2.2.2.2.2.2.2.1 | exact Zl z.2.2.2.2.2.2.2.1 | exact Zg z.2.2.2.2.2.2.2.1 | exact z.2.2.2.2.2.2.2.2 | exact Zs z.2.2.2.2.2.2.2.2 | exact Zl z.2.2.2.2.2.2.2.2 | exact Zg z.2.2.2.2.2.2.2.2 | exact z.2.2.2.2.2.2.2.2.1 | exact Zs z.2.2.2.2.2.2.2.2.1 | exact Zl z.2.2.2.2.2.2.2.2.1 | exact Zg z.2.2.2.2.2.2.2.2.1 | exact z.2.2.2.2.2.2.2.2.2.1 | exact Zs z.2.2.2.2.2.2.2.2.2.1 | exact Zl z.2.2.2.2.2.2.2.2.2.1 | exact Zg z.2.2.2.2.2.2.2.2.2.1 | exact z.2.2.2.2.2.2.2.2.2.2.1 | exact Zs z.2.2.2.2.2.2.2.2.2.2.1 | exact Zl z.2.2.2.2.2.2.2.2.2.2.1 | exact Zg z.2.2.2.2.2.2.2.2.2.2.1 | exact z.2.2.2.2.2.2.2.2.2.2.2.1 | exact Zs z.2.2.2.2.2.2.2.2.2.2.2.1 | exact Zl z.2.2.2.2.2.2.2.2.2.2.2.1 | exact Zg z.2.2.2.2.2.2.2.2.2.2.2.1 | exact z.2.2.2.2.2.2.2.2.2.2.2.2.1 | exact Zs z.2.2.2.2.2.2.2.2.2.2.2.2.1 | exact Zl z.2.2.2.2.2.2.2.2.2.2.2.2.1 | exact Zg z.2.2.2.2.2.2.2.2.2.2.2.2.1 | exact z.2.2.2.2.2.2.2.2.2.2.2.2.2.1 | exact Zs z.2.2.2.2.2.2.2.2.2.2.2.2.2.1 | exact Zl z.2.2.2.2.2.2.2.2.2.2.2.2.2.1 | exact Zg z.2.2.2.2.2.2.2.2.2.2.2.2.2.1 | (clear z; (k_extra "mine:pj"))))
  k_with "mine:ne" => (first | (with_reducible assumption) | exact Ne.symm (by with_reducible assumption) | exact ne_lt (by with_reducible assumption) | exact ne_gt (by with_reducible assumption) | exact ne_lt (lt_led (by with_reducible assumption) (by k_mem)) | exact ne_gt (lt_led (by with_reducible assumption) (by k_mem)) | ((try dsimp only); with_reducible (k_extra "mine:pj")) | assumption | exact Nat.ne_of_lt (Nat.lt_succ_self _) | exact Nat.ne_of_gt (Nat.lt_succ_self _) | (walk_say "K_NE OMEGA"; refine neN ?_; (try dsimp only); omega))
  k_with "mine:nes" => (first | (refine And.intro ?_ ?_ <;> (k_extra "mine:nes")) | k_ne)
  k_with "mine:in" => (first | (with_reducible exact List.mem_cons_self) | (with_reducible assumption) | ((with_reducible refine List.mem_cons_of_mem _ ?_); (k_extra "mine:in")) | exact List.mem_cons_self | (refine List.mem_cons_of_mem _ ?_; (k_extra "mine:in")) | (refine List.mem_append_left _ ?_; (k_extra "mine:in")) | (refine List.mem_append_right _ ?_; (k_extra "mine:in")))
  k_with "mine:sub" => (first | (with_reducible exact sub_id) | (with_reducible exact sub_nil) | ((with_reducible refine sub_cons ?haW7 ?hbW7); (case haW7 => (k_extra "mine:in")); (case hbW7 => (k_extra "mine:sub"))) | ((with_reducible refine sub_both ?haW7 ?hbW7); (case haW7 => (k_extra "mine:sub")); (case hbW7 => (k_extra "mine:sub"))) | ((with_reducible refine sub_skip ?_); (k_extra "mine:sub")) | ((with_reducible refine sub_right ?_); (k_extra "mine:sub")) | ((with_reducible refine sub_left ?_); (k_extra "mine:sub")) | (simp only [List.nil_append, List.cons_append]; (k_extra "mine:sub")))
  k_with "mine:keys" => (first | (k_dflt (exact keys_of rfl rfl)) | (walk_say "K_KEYS LONG"; repeat (first | exact True.intro | refine And.intro ⟨_, _, rfl, rfl⟩ ?_)))
  k_with "mine:enter0" => ((refine' enter0 ?k1W7 ?k2W7 ?k3W7 ?k4W7 ?kKW7 ?k8W7 ?k6W7 ?k7W7 ?k9W7 ?kBW7 ?_ ?c2W7 ?c3W7 ?c4W7 ?c5W7; (case kKW7 => assumption); (case k1W7 => k_asm); (case k2W7 => k_asm); (case k3W7 => k_asm); (case k4W7 => k_asm); (case k6W7 => k_is); (case k7W7 => k_is); (case k8W7 => ktr_room); (case k9W7 => exact BindsTo.of_eq rfl); (case c5W7 => decide); (case kBW7 => exact locs rfl); (case c2W7 => exact rfl); (case c3W7 => exact rfl); (case c4W7 => exact rfl); k_whole; intro Lq9 hq9 tkq9 Fq9 Nq9 Bq9 Xq9 Tq9; (try dsimp only); (try k_fold)))
  k_with "mine:ret" => (((all_goals (try dsimp only)); (all_goals (try k_unfold)); (all_goals (try dsimp only))))
  k_with "mine:same" => (first | exact fun _ _ => rfl | exact fun _ _ _ => rfl | exact same_fg | exact same_fgN | (refine same_upY ?_; (k_extra "mine:same")) | (refine same_up (by rfl) ?_; (k_extra "mine:same")) | (refine same_upN (by rfl) ?_; (k_extra "mine:same")) | (intros; (try dsimp only [forget, up]); (repeat' split); all_goals first | rfl | (exfalso; subst_vars; (rename (List.contains _ _ = false) => hz9); (revert hz9); decide) | (exfalso; (rename (List.contains _ _ = false) => hz9); (rename (List.contains _ _ = true) => hz8); rw [hz9] at hz8; exact Bool.noConfusion hz8) | (exfalso; subst_vars; contradiction)))
  trivial
open PySem PySem.W PySem.Calls PySem.Spec PyProof.Rows
theorem words_G2_1 : True := by
  k_with "InvEndN" => ((with_reducible refine stay ?_))
  trivial
noncomputable def bodyOfFor : List Stmt → Option (List Stmt)
  | [] => none
  | .For _ _ b _ _ :: _ => some b
  | _ :: r => bodyOfFor r
/-- the body of the law's loop over the points -/
noncomputable def ptSeg (i n : Nat) : Option (List Stmt × Scope) := (lawSeg 19 1).bind fun x => (bodyOfFor x.1).map fun b => ((b.drop i).take n, x.2)
theorem bit_01 (x : Int) : 0 ≤ Builtin.bitAnd x 1 ∧ Builtin.bitAnd x 1 ≤ 1 := by
  unfold Builtin.bitAnd
  have h1 : decide ((0 : Int) ≤ 1) = true := rfl
  rw [h1]
  cases decide (0 ≤ x) with
  | true =>
    have h := Nat.and_le_right (n := x.toNat) (m := 1)
    show 0 ≤ ((x.toNat &&& 1 : Nat) : Int) ∧ ((x.toNat &&& 1 : Nat) : Int) ≤ 1
    omega
  | false =>
    have h := Nat.and_le_left (n := 1) (m := (Builtin.bitNot x).toNat)
    show 0 ≤ 1 - ((1 &&& (Builtin.bitNot x).toNat : Nat) : Int) ∧ 1 - ((1 &&& (Builtin.bitNot x).toNat : Nat) : Int) ≤ 1
    omega
theorem word_at {ns : List Int} {n : Nat} {k : Int} (hn : ns.length = n) (h01 : ∀ x ∈ ns, 0 ≤ x ∧ x ≤ 1) (h0 : 0 ≤ k) (h1 : k < (n : Int)) : Txt.item (wordOf ns) k = Str.ofString "x" ∨ Txt.item (wordOf ns) k = Str.ofString "X" := by
  subst hn
  rw [word_item h0 h1]
  have h2 : ns.getD k.toNat 0 ∈ ns := by
    rw [List.getD_eq_getElem?_getD, List.getElem?_eq_getElem (by omega : k.toNat < ns.length)]
    exact List.getElem_mem _
  exact item_xX (h01 _ h2).1 (h01 _ h2).2
section
variable {w : World} {s : Shared} {h₀ : Heap} {L fa TT : Addr} {m mg mb : Str → Option Value} {p : Program} {loose : List Str} {mean : ExcName → Option Value} {cd : Value} {o3 oz : Obj}
    {st : List Stmt} {sc : Scope} {Q : Flow → Shared → Prop} {tz tw tp : Tok} {vt : List Value} {ns tots : List Int} {nt : Nat} {pt : Int} {rest : List (Addr × Obj)}
theorem words_G2_2 : True := by
  k_with "pyIter ref" => ((k_here; (with_reducible show wpAny _ _ (pyIter (Value.ref _)) (fun it s₂ => LoopAtV _ _ _ _ _ _ _ _ _ it s₂) _ _); k_dflt ( (rename Fr _ _ _ _ => kF9); (rename News _ _ _ _ => kN9); (with_unfolding_all refine' range_fold (n := 8) (Str.ofString "price") (fun a k => a + costI ns (tots.getD pt.toNat 0) k) ?hhW7 ?hrW7 ?hsW7 ?hnW7 kF9 kN9 ?hyW7 ?_ ?_); (case hhW7 => rfl); (case hrW7 => k_asm); (case hsW7 => decide +kernel); (case hnW7 => first | exact rangeSize_nat _ _ | rfl); (case hyW7 => exact rfl); (all_goals clear kF9 kN9))))
  k_with "subscriptTail" => ((k_here; (with_reducible show wpAny _ _ (subscriptTail _ _ (Value.str _ _) (Value.int _ _)) _ _ _); k_dflt (first | (with_reducible refine KXi.item (x := wordOf ns) (n := 8) (by assumption) (by omega) (by omega) (by decide) ?_) | (with_reducible refine KXi.item (i := Builtin.bitAnd _ 1) (by kxi_len) (by exact Int.le_trans (by decide) (bit_01 _).1) (by exact Int.lt_of_le_of_lt (bit_01 _).2 (by decide)) (by decide) ?_)); intro kxiE; clear kxiE))
  k_with "call ref" => ((k_here; k_dflt ( (show wpAny _ _ (call (Value.ref 115) _) _ _ _); (rename (0 ≤ _) => hk9); (rename (_ < 0 + _) => hl9); (rename List.length ns = _ => hns9); (rename (∀ x, x ∈ ns → _) => h019); (refine' use_spec ?FW7 ?NW7 (spec_subst ?BW7 ?F1W7 ?XW7 ?TW7 ?hkW7 ?dW7 ?uW7 ?hxW7 ?hyW7) ?_); (case FW7 => k_asm); (case NW7 => k_asm); (case BW7 => k_asm); (case F1W7 => k_asm); (case XW7 => k_asm); (case TW7 => k_asm); (case hkW7 => rfl); (case dW7 => ktr_room); (case uW7 => ktr_units); (case hxW7 => exact word_at hns9 h019 hk9 (Int.lt_of_lt_of_le hl9 (by decide))); (case hyW7 => exact item_xX (bit_01 _).1 (bit_01 _).2); (intro vq9 hq9 tkq9 Fq9 Nq9 Eq9 qq9; (obtain ⟨tv, qq9⟩ := qq9); subst qq9); (try k_sweep))))
  trivial
set_option maxHeartbeats 4000000 in
theorem ptA3 (he : ptSeg 0 2 = some (st, sc))
    (B : Below callerA h₀ [] h₀) (X : (hd.heap_1 w.params).In h₀) (T : Top p loose mean mg mb h₀) (cz : oz.data = .cell (some (.int 3 tz))) (cp : o3.data = .cell (some (.int pt tp)))
    (hm1 : m (Str.ofString "word") = some (.str (wordOf ns) tw)) (hm2 : m (Str.ofString "totals") = some (.ref TT)) (hIt : IntsAre vt tots) (hns : ns.length = 8) (htl : tots.length = 8) (hpt : 0 ≤ pt ∧ pt < tots.length) (h01 : ∀ x ∈ ns, 0 ≤ x ∧ x ≤ 1)
    (F : Fr h₀ L s.heap m) (N : News h₀ L s.heap ((TT, W.listOf vt.toArray nt) :: (L + 1 + 1 + 1, o3) :: (L + 1, oz) :: rest))
    (kk : ∀ (t : Tok) (h' : Heap) (tk : Nat) (m' : Str → Option Value), m' (Str.ofString "price") = some (.int (priceI 8 ns (tots.getD pt.toNat 0)) t) → (∀ z, [Str.ofString "place", Str.ofString "price"].contains z = false → m' z = m z) → Fr h₀ L h' m' →
      News h₀ L h' ((TT, W.listOf vt.toArray nt) :: (L + 1 + 1 + 1, o3) :: (L + 1, oz) :: rest) → Q .next { s with heap := h', toks := tk }) :
    wpAny (model Challenge.rw_sn0075_01.row.prog w) (callerA.deeper (envOfC (Str.ofString "law") sc L fa cd)) (execs st (envOfC (Str.ofString "law") sc L fa cd)) Q (fun _ _ => False) s := by
  revert X; k_fill; intro X
  have he2 : ptSeg 0 2 = some ([_, _], _) := rfl
  rw [he] at he2
  cases he2
  clear he
  have hwl := word_len ns
  rw [hns] at hwl
  rw [known hm1, known hm2] at F
  repeat (first | (dsimp only; walk1) | walk1)
  · (rename Fr _ _ _ _ => kF); (rename News _ _ _ _ => kN)
    exact InvEndN.intro kF kN ⟨rfl, ⟨_, rfl⟩, fun z z1 z2 => by simp only [if_neg z1, if_neg z2]⟩ rfl (fun p hp => List.mem_append_left _ hp) (fun p hp => List.mem_append_right _ hp)
  · repeat (first | (dsimp only; walk1) | walk1)
    (rename Fr _ _ _ _ => kF); (rename News _ _ _ _ => kN)
    refine kk _ _ _ _ rfl ?_ kF kN
    intro z hz
    have z1 : z ≠ Str.ofString "place" := by rintro rfl; revert hz; decide
    have z2 : z ≠ Str.ofString "price" := by rintro rfl; revert hz; decide
    simp only [if_neg z1, if_neg z2]
    split
    · rename_i h; subst h; exact hm1.symm
    · split
      · rename_i h; subst h; exact hm2.symm
      · rfl
end
end PartG2
section PartLh
theorem base_Lh : True := by
  w_top off
  k_with_none
  k_with "mine:step" => ((first | (k_unfold; (try dsimp only)) | (k_end; wrow_close) | walk1 | (dsimp only; walk1) | (leave1; walk_say "STEP leave1"; try dsimp only) | fail "no step"))
  k_with "storeName" => ((k_here; k_dflt (first | (refine' storeI ?FW7 ?NW7 ?_ ?aW7 ?bW7; (case FW7 => k_asm); (case NW7 => k_asm); (case aW7 => rfl); (case bW7 => rfl); k_whole; intro hq9 tq9 tkq9 Fq9 Nq9; (try k_sweep)) | (refine' storeU ?FW7 ?NW7 ?_ ?aW7 ?bW7; (case FW7 => k_asm); (case NW7 => k_asm); (case aW7 => rfl); (case bW7 => rfl); k_whole; intro hq9 tkq9 Fq9 Nq9; (try k_sweep)))))
  k_with "mine:pj" => (((rename (_ ∧ _) => z); first | exact z.1 | exact Zs z.1 | exact Zl z.1 | exact Zg z.1 | exact z.2 | exact Zs z.2 | exact Zl z.2 | exact Zg z.2 | exact z.2.1 | exact Zs z.2.1 | exact Zl z.2.1 | exact Zg z.2.1 | exact z.2.2 | exact Zs z.2.2 | exact Zl z.2.2 | exact Zg z.2.2 | exact z.2.2.1 | exact Zs z.2.2.1 | exact Zl z.2.2.1 | exact Zg z.2.2.1 | exact z.2.2.2 | exact Zs z.2.2.2 | exact Zl z.2.2.2 | exact Zg z.2.2.2 | exact z.2.2.2.1 | exact Zs z.2.2.2.1 | exact Zl z.2.2.2.1 | exact Zg z.2.2.2.1 | exact z.2.2.2.2 | exact Zs z.2.2.2.2 | exact Zl z.2.2.2.2 | exact Zg z.2.2.2.2 | exact z.2.2.2.2.1 | exact Zs z.2.2.2.2.1 | exact Zl z.2.2.2.2.1 | exact Zg z.2.2.2.2.1 | exact z.2.2.2.2.2 | exact Zs z.2.2.2.2.2 | exact Zl z.2.2.2.2.2 | exact Zg z.2.2.2.2.2 | exact z.2.2.2.2.2.1 | exact Zs z.2.2.2.2.2.1 | exact Zl z.2.2.2.2.2.1 | exact Zg z.2.2.2.2.2.1 | exact z.2.2.2.2.2.2 | exact Zs z.2.2.2.2.2.2 | exact Zl z.2.2.2.2.2.2 | exact Zg z.2.2.2.2.2.2 | exact z.2.2.2.2.2.2.1 | exact Zs z.2.2.2.2.2.2.1 | exact Zl z.2.2.2.2.2.2.1 | exact Zg z.2.2.2.2.2.2.1 | exact z.2.2.2.2.2.2.2 | exact Zs z.2.2.2.2.2.2.2 | exact Zl z.2.2.2.2.2.2.2 | exact Zg z.2.2.2.2.2.2.2 | exact z.2.2.2.2.2.2.2.1 | exact Zs z.2.2.2.2.2.2.2.1 | exact Zl z.2.2.2.2.2.2.2.1 | exact Zg z.2.2.2.2.2.2.2.1 | exact z.2.2.2.2.2.2.2.2 | exact Zs z.2.2.2.2.2.2.2.2 | exact Zl z.2.2.2.2.2.2.2.2 | exact Zg z.2.2.2.2.2.2.2.2 | exact z.2.2.2.2.2.2.2.2.1 | exact Zs z.2.2.2.2.2.2.2.2.1 | exact Zl z.2.2.2.2.2.2.2.2.1 | exact Zg z.2.2.2.2.2.2.2.2.1 | exact z.2.2.2.2.2.2.2.2.2.1 | exact Zs z.2.2.2.2.2.2.2.2.2.1 | exact Zl z.2.2.2.2.2.2.2.2.2.1 | exact Zg z.2.2.2.2.2.2.2.2.2.1 | exact z.2.2.2.2.2.2.2.2.2.2.1 | exact Zs z.2.2.2.2.2.2.2.2.2.2.1 | exact Zl z.2.2.2.2.2.2.2.2.2.2.1 | exact Zg z.2.2.2.2.2.2.2.2.2.2.1 | exact z.2.2.2.2.2.2.2.2.2.2.2.1 | exact Zs z.2.2.2.2.2.2.2.2.2.2.2.1 | exact Zl z.2.2.2.2.2.2.2.2.2.2.2.1 | exact Zg z.2.2.2.2.2.2.2.2.2.2.2.1 | exact z.2.2.2.2.2.2.2.2.2.2.2.2.1 | exact Zs z.2.2.2.2.2.2.2.2.2.2.2.2.1 | exact Zl z.2.2.2.2.2.2.2.2.2.2.2.2.1 | exact Zg z.2.2.2.2.2.2.2.2.2.2.2.2.1 | exact z.2.2.2.2.2.2.2.2.2.2.2.2.2.1 | exact Zs z.2.2.2.2.2.2.2.2.2.2.2.2.2.1 | exact Zl z.2.2.2.2.2.2.2.2.2.2.2.2.2.1 | exact Zg z.2.2.2.2.2.2.2.2.2.2.2.2.2.1 | (clear z; (k_extra "mine:pj"))))
  k_with "mine:ne" => (first | (with_reducible assumption) | exact Ne.symm (by with_reducible assumption) | exact ne_lt (by with_reducible assumption) | exact ne_gt (by with_reducible assumption) | exact ne_lt (lt_led (by with_reducible assumption) (by k_mem)) | exact ne_gt (lt_led (by with_reducible assumption) (by k_mem)) | ((try dsimp only); with_reducible (k_extra "mine:pj")) | assumption | exact Nat.ne_of_lt (Nat.lt_succ_self _) | exact Nat.ne_of_gt (Nat.lt_succ_self _) | (walk_say "K_NE OMEGA"; refine neN ?_; (try dsimp only); omega))
  k_with "mine:nes" => (first | (refine And.intro ?_ ?_ <;> (k_extra "mine:nes")) | k_ne)
  k_with "mine:in" => (first | (with_reducible exact List.mem_cons_self) | (with_reducible assumption) | ((with_reducible refine List.mem_cons_of_mem _ ?_); (k_extra "mine:in")) | exact List.mem_cons_self | (refine List.mem_cons_of_mem _ ?_; (k_extra "mine:in")) | (refine List.mem_append_left _ ?_; (k_extra "mine:in")) | (refine List.mem_append_right _ ?_; (k_extra "mine:in")))
  k_with "mine:sub" => (first | (with_reducible exact sub_id) | (with_reducible exact sub_nil) | ((with_reducible refine sub_cons ?haW7 ?hbW7); (case haW7 => (k_extra "mine:in")); (case hbW7 => (k_extra "mine:sub"))) | ((with_reducible refine sub_both ?haW7 ?hbW7); (case haW7 => (k_extra "mine:sub")); (case hbW7 => (k_extra "mine:sub"))) | ((with_reducible refine sub_skip ?_); (k_extra "mine:sub")) | ((with_reducible refine sub_right ?_); (k_extra "mine:sub")) | ((with_reducible refine sub_left ?_); (k_extra "mine:sub")) | (simp only [List.nil_append, List.cons_append]; (k_extra "mine:sub")))
  k_with "mine:keys" => (first | (k_dflt (exact keys_of rfl rfl)) | (walk_say "K_KEYS LONG"; repeat (first | exact True.intro | refine And.intro ⟨_, _, rfl, rfl⟩ ?_)))
  k_with "mine:enter0" => ((refine' enter0 ?k1W7 ?k2W7 ?k3W7 ?k4W7 ?kKW7 ?k8W7 ?k6W7 ?k7W7 ?k9W7 ?kBW7 ?_ ?c2W7 ?c3W7 ?c4W7 ?c5W7; (case kKW7 => assumption); (case k1W7 => k_asm); (case k2W7 => k_asm); (case k3W7 => k_asm); (case k4W7 => k_asm); (case k6W7 => k_is); (case k7W7 => k_is); (case k8W7 => ktr_room); (case k9W7 => exact BindsTo.of_eq rfl); (case c5W7 => decide); (case kBW7 => exact locs rfl); (case c2W7 => exact rfl); (case c3W7 => exact rfl); (case c4W7 => exact rfl); k_whole; intro Lq9 hq9 tkq9 Fq9 Nq9 Bq9 Xq9 Tq9; (try dsimp only); (try k_fold)))
  k_with "mine:ret" => (((all_goals (try dsimp only)); (all_goals (try k_unfold)); (all_goals (try dsimp only))))
  k_with "mine:same" => (first | exact fun _ _ => rfl | exact fun _ _ _ => rfl | exact same_fg | exact same_fgN | (refine same_upY ?_; (k_extra "mine:same")) | (refine same_up (by rfl) ?_; (k_extra "mine:same")) | (refine same_upN (by rfl) ?_; (k_extra "mine:same")) | (intros; (try dsimp only [forget, up]); (repeat' split); all_goals first | rfl | (exfalso; subst_vars; (rename (List.contains _ _ = false) => hz9); (revert hz9); decide) | (exfalso; (rename (List.contains _ _ = false) => hz9); (rename (List.contains _ _ = true) => hz8); rw [hz9] at hz8; exact Bool.noConfusion hz8) | (exfalso; subst_vars; contradiction)))
  trivial
open PySem PySem.W PySem.Calls PySem.Spec PyProof.Rows PyProof.V
section
variable {prog : Program} {w : World} {A : Around} {E : Value → Shared → Prop} {s : Shared} {env : Env} {h₀ : Heap} {target : Expr} {body : List Stmt} {Q : Flow → Shared → Prop}
/-- a turn's end: what is made may be new -/
noncomputable def EndF (h₀ : Heap) (L : Addr) (J : (Str → Option Value) → List (Addr × Obj) → Prop) (al : Addr × Obj) (own : List (Addr × Obj)) (s₁ : Shared) (f : Flow) (s₂ : Shared) : Prop :=
  f = .next ∧ ∃ h' tk m' nx, s₂ = { s₁ with heap := h', toks := tk } ∧ Fr h₀ L h' m' ∧ News h₀ L h' (al :: (nx ++ own)) ∧ (∀ p ∈ own, ∀ q ∈ nx, @Ne Nat q.1 p.1) ∧ J m' nx
/-- a loop over a list of the ledger, by an invariant; the ledger may hold new objects behind each turn -/
theorem iter_turnsF {ax : Addr} {lo : Obj} {vs : List Value} {n : Nat} {m₀ : Str → Option Value} {news : List (Addr × Obj)} (J : Nat → (Str → Option Value) → List (Addr × Obj) → Prop)
    (hh : A.handled = none) (F : Fr h₀ env.locals s.heap m₀) (N : News h₀ env.locals s.heap ((ax, lo) :: news)) (hc : lo.cls = .type "list") (hd : lo.data = .seq vs.toArray n) (hax : ∀ p ∈ news, p.1 ≠ ax) (hj : J 0 m₀ news)
    (turn : ∀ i v m₁ news₁ h tk own, vs[i]? = some v → (∀ p ∈ own, ∀ q ∈ news₁, @Ne Nat q.1 p.1) → J i m₁ news₁ → Fr h₀ env.locals h m₁ → News h₀ env.locals h ((ax, lo) :: (news₁ ++ own)) →
      wpAny (model prog w) A (assign target env v) (fun _ s₂ => wpAny (model prog w) A (execs body env) (EndF h₀ env.locals (J (i + 1)) (ax, lo) own { s with heap := h, toks := tk }) E s₂) E { s with heap := h, toks := tk })
    (done : ∀ m₁ news₁ h tk, J vs.length m₁ news₁ → Fr h₀ env.locals h m₁ → News h₀ env.locals h ((ax, lo) :: news₁) → Q .next { s with heap := h, toks := tk }) :
    wpAny (model prog w) A (pyIter (.ref ax)) (fun it s₂ => TurnsAt prog w A h₀ env target body Q E it s₂) E s := by
  have hax0 := N _ (.head _)
  have hls : s.heap.IsList ax vs.toArray := ⟨lo, hax0.1, hc, n, hd⟩
  have hlt : ax < s.heap.objs.size := Heap.lt_size hax0.1
  have hne : ax ≠ s.heap.objs.size := Nat.ne_of_lt hlt
  refine wpAny_pyIter_list hls ?_
  have W := KTurns.ofWalks (target := target) (Walks.list (prog := prog) (w := w) hh s.heap.objs.size ax hne vs.toArray) (fun i v s Q E st q => letGo_listiter st.1 q)
  have hlen : vs.toArray.size = vs.length := by simp
  rw [hlen] at W
  have hnI : h₀.get? s.heap.objs.size = none := next_is_new F
  let J' : Nat → (Str → Option Value) → List (Addr × Obj) → Prop := fun i m₁ news₁ => ∃ n1, news₁ = (ax, lo) :: n1 ∧ (∀ p ∈ n1, p.1 ≠ ax ∧ p.1 ≠ s.heap.objs.size) ∧ J i m₁ n1
  refine ⟨_, _, _, vs.length, _, _, _, m₀, (ax, lo) :: news, J', rfl, W, ?_, ?_, ?_, ⟨⟨_, Heap.get?_push_size _ rfl, rfl, rfl⟩, hls.at fun o e => Heap.get?_push_of_some _ e⟩, F.push _, (fun p hp => ⟨Heap.get?_push_of_some _ (N p hp).1, (N p hp).2⟩), ⟨news, rfl, fun p hp => ⟨hax p hp, Nat.ne_of_lt (Heap.lt_size (N p (.tail _ hp)).1)⟩, hj⟩, ?_, ?_⟩
  · intro hm
    rcases List.mem_cons.mp hm with e | hm
    · exact absurd F.ns.lt (e ▸ Nat.lt_irrefl _)
    · exact hax0.2.1 (List.mem_singleton.mp hm).symm
  · intro b hb
    rw [List.mem_singleton.mp hb]
    exact hnI
  · intro p hp hI
    exact absurd (Heap.lt_size (N p hp).1) ((List.mem_singleton.mp hI) ▸ Nat.lt_irrefl _)
  · rintro i v m₁ news₁ hh' tk' own hin hP ⟨n1, rfl, hn1, hJ⟩ hoff hown hget hall hst F₁ N₁
    have hsep : ∀ p ∈ own, ∀ q ∈ n1, @Ne Nat q.1 p.1 := by
      intro p hp q hq e
      rcases List.mem_cons.mp (hown p hp) with h1 | h1
      · exact (hn1 q hq).2 (e.trans h1)
      · exact (hn1 q hq).1 (e.trans (List.mem_singleton.mp h1))
    have hv : vs[i]? = some v := by simpa using hP
    have hlo : (ax, lo) ∈ own := by
      have h1 := N₁ (ax, lo) (List.mem_append_right _ (.head _))
      exact hall ax (by simp) h1.2.2 lo h1.1
    have hIo : ∃ o, (s.heap.objs.size, o) ∈ own := by
      obtain ⟨o, ho, _⟩ := hst.1
      exact ⟨o, hall _ (.head _) hnI o ho⟩
    have N₂ : News h₀ env.locals hh' ((ax, lo) :: (n1 ++ own)) := fun p hp => by
      rcases List.mem_cons.mp hp with rfl | hp
      · exact N₁ _ (List.mem_append_right _ (.head _))
      · rcases List.mem_append.mp hp with hp | hp
        · exact N₁ _ (List.mem_append_right _ (.tail _ hp))
        · exact N₁ _ (List.mem_append_left _ hp)
    refine wpAny_mono (turn i v m₁ n1 hh' tk' own hv hsep hJ F₁ N₂) (fun _ s₂ p₂ => wpAny_mono p₂ (fun f s₃ p => ?_) fun _ _ e => e) fun _ _ e => e
    obtain ⟨rfl, h', tk, m', nx, e, F', N', hs', hm⟩ := p
    obtain ⟨oI, hoI⟩ := hIo
    refine .next ⟨rfl, h', tk, m', (ax, lo) :: nx, e, F', fun p hp => ?_, fun p hp hq => ?_, nx, rfl, fun p hp => ⟨hs' _ hlo p hp, hs' _ hoI p hp⟩, hm⟩
    · rcases List.mem_append.mp hp with hp | hp
      · exact N' p (.tail _ (List.mem_append_right _ hp))
      · rcases List.mem_cons.mp hp with rfl | hp
        · exact N' _ (.head _)
        · exact N' p (.tail _ (List.mem_append_left _ hp))
    · rcases List.mem_cons.mp hp with rfl | hp
      · exact hoff _ (.head _) hq
      · exact hs' _ hoI p hp (List.mem_singleton.mp hq)
  · rintro h' tk m' news' F' N' _ ⟨n1, rfl, _, hJ⟩
    exact done m' n1 h' tk hJ F' N'
end
theorem news_sw {h₀ h : Heap} {L : Addr} {a b : Addr × Obj} {r : List (Addr × Obj)} (N : News h₀ L h (a :: b :: r)) : News h₀ L h (b :: a :: r) := fun q hq => N q (by
  exact sub_app (by (k_extra "mine:sub")) hq)
/-- the body of the loop that makes the totals -/
noncomputable def totSeg : Option (List Stmt × Scope) := (lawSeg 15 1).bind fun x => (bodyOfFor x.1).map fun b => (b, x.2)
section
variable {w : World} {s : Shared} {h₀ : Heap} {L fa TT : Addr} {m mg mb : Str → Option Value} {p : Program} {loose : List Str} {mean : ExcName → Option Value} {cd : Value} {o5 : Obj}
    {st st15 : List Stmt} {sc : Scope} {Q : Flow → Shared → Prop} {t5 : Tok} {vt : List Value} {nt : Nat} {ns : List Int} {k : Int} {rest : List (Addr × Obj)}
set_option maxHeartbeats 4000000 in
theorem tot_body (he : totSeg = some (st, sc))
    (B : Below callerA h₀ [] h₀) (X : (hd.heap_1 w.params).In h₀) (T : Top p loose mean mg mb h₀) (c5 : o5.data = .cell (some (.int k t5)))
    (hm2 : m (Str.ofString "totals") = some (.ref TT)) (hIt : IntsAre vt ns) (hns : ns.length ≤ 16)
    (F : Fr h₀ L s.heap m) (N : News h₀ L s.heap ((TT, W.listOf vt.toArray nt) :: (L + 1 + 1 + 1 + 1 + 1, o5) :: rest))
    (kk : ∀ (TT' : Addr) (vt' : List Value) (h' : Heap) (tk : Nat) (m' : Str → Option Value), IntsAre vt' (ns ++ ns.map fun x => Builtin.bitXor x k) → m' (Str.ofString "totals") = some (.ref TT') → (∀ z, z ≠ Str.ofString "totals" → m' z = m z) → (∀ q ∈ (TT, W.listOf vt.toArray nt) :: (L + 1 + 1 + 1 + 1 + 1, o5) :: rest, @LT.lt Nat _ q.1 TT') → Fr h₀ L h' m' →
      News h₀ L h' ((TT', W.listOf vt'.toArray 0) :: (L + 1 + 1 + 1 + 1 + 1, o5) :: rest) → Q .next { s with heap := h', toks := tk }) :
    wpAny (model Challenge.rw_sn0075_01.row.prog w) (callerA.deeper (envOfC (Str.ofString "law") sc L fa cd)) (execs st (envOfC (Str.ofString "law") sc L fa cd)) Q (fun _ _ => False) s := by
  revert X; k_fill; intro X
  have he2 : totSeg = some ([_], _) := rfl
  rw [he] at he2
  cases he2
  clear he
  have hvl := hIt.length
  rw [known hm2] at F
  repeat (first | (dsimp only; walk1) | walk1)
  (rename Fr _ _ _ _ => kF); (rename News _ _ _ _ => kN); (rename IntsAre _ (_ ++ _) => kI); (rename (@LT.lt Nat _ _ _ ∧ @LT.lt Nat _ _ _ ∧ _) => kL)
  refine kk _ _ _ _ _ kI (by exact rfl) (fun z hz => ?_) (fun q hq => ?_) kF (fun q hq => kN q (by
    exact sub_app (by (k_extra "mine:sub")) hq))
  · simp only [if_neg hz]
  · rcases List.mem_cons.mp hq with rfl | hq
    · exact kL.2.1
    · rcases List.mem_cons.mp hq with rfl | hq
      · exact kL.2.2.1
      · exact ktn_ltOf kL.2.2.2 q hq
set_option maxHeartbeats 4000000 in
theorem letter_set (he : lawSeg 15 1 = some (st, sc)) {Q : Unit → Shared → Prop} {py : Pos} {v : Value} {vo : Option Value}
    (B : Below callerA h₀ [] h₀) (X : (hd.heap_1 w.params).In h₀) (T : Top p loose mean mg mb h₀) (c3 : o5.data = .cell vo) (hne : ∀ q ∈ rest, q.1 ≠ L + 1 + 1 + 1 + 1 + 1)
    (F : Fr h₀ L s.heap m) (N : News h₀ L s.heap ((L + 1 + 1 + 1 + 1 + 1, o5) :: rest))
    (kk : ∀ (o5' : Obj) (h' : Heap) (tk : Nat), o5'.data = .cell (some v) → Fr h₀ L h' m → News h₀ L h' ((L + 1 + 1 + 1 + 1 + 1, o5') :: rest) → Q () { s with heap := h', toks := tk }) :
    wpAny (model Challenge.rw_sn0075_01.row.prog w) (callerA.deeper (envOfC (Str.ofString "law") sc L fa cd)) (assign (.Name (Str.ofString "letter") py) (envOfC (Str.ofString "law") sc L fa cd) v) Q (fun _ _ => False) s := by
  revert X; k_fill; intro X
  have he2 : lawSeg 15 1 = some ([_], _) := rfl
  rw [he] at he2
  cases he2
  clear he
  repeat (first | (dsimp only; walk1) | walk1)
  exact storeX_C F N rfl (UpdF.head hne) c3 (fun h' o' F' N' d' => kk o' h' _ d' F' N')
theorem tot_snoc (l : List Int) (k : Int) : totOf (l ++ [k]) = totOf l ++ (totOf l).map fun x => Builtin.bitXor x k := by
  unfold totOf
  rw [List.foldl_append]
  rfl
theorem tot_len : ∀ (l : List Int), (totOf l).length = 2 ^ l.length := by
  have key : ∀ (l : List Int) (a : List Int), (l.foldl (fun ts l => ts ++ ts.map fun k => Builtin.bitXor k l) a).length = a.length * 2 ^ l.length := by
    intro l
    induction l with
    | nil => intro a; simp
    | cons x r ih =>
      intro a
      rw [List.foldl_cons, ih, List.length_append, List.length_map, List.length_cons, Nat.pow_succ]
      generalize 2 ^ r.length = e
      rw [← Nat.two_mul, Nat.mul_comm e 2, ← Nat.mul_assoc, Nat.mul_comm 2]
  intro l
  have h := key l [0]
  rw [List.length_singleton, Nat.one_mul] at h
  exact h
theorem words_Lh_1 : True := by
  k_with "exec For Name Name cons nil" => ((k_here; (rename Fr _ _ _ _ => lFq9); (with_unfolding_all refine' For_turns lFq9 ?_); k_whole))
  trivial
set_option maxHeartbeats 4000000 in
theorem segT (he : lawSeg 14 2 = some (st, sc)) (he15 : lawSeg 15 1 = some (st15, sc)) {LL : Addr} {vl : List Value} {nl : Nat} {lts : List Int}
    (B : Below callerA h₀ [] h₀) (X : (hd.heap_1 w.params).In h₀) (T : Top p loose mean mg mb h₀) (c5 : o5.data = .cell none) (hIl : IntsAre vl lts) (h4 : lts.length ≤ 4)
    (lR : @LT.lt Nat _ (L + 1 + 1 + 1 + 1 + 1) LL) (hne : ∀ q ∈ rest, @Ne Nat q.1 (L + 1 + 1 + 1 + 1 + 1) ∧ @Ne Nat q.1 LL)
    (hm2 : m (Str.ofString "letters") = some (.ref LL))
    (F : Fr h₀ L s.heap m) (N : News h₀ L s.heap ((LL, W.listOf vl.toArray nl) :: (L + 1 + 1 + 1 + 1 + 1, o5) :: rest))
    (kk : ∀ (TT : Addr) (vt : List Value) (nt : Nat) (o5' : Obj) (h' : Heap) (tk : Nat) (m' : Str → Option Value), IntsAre vt (totOf lts) → m' (Str.ofString "totals") = some (.ref TT) → m' (Str.ofString "word") = m (Str.ofString "word") → @LT.lt Nat _ (L + 1 + 1 + 1 + 1 + 1) TT → Fr h₀ L h' m' →
      News h₀ L h' ((TT, W.listOf vt.toArray nt) :: (L + 1 + 1 + 1 + 1 + 1, o5') :: rest) → Q .next { s with heap := h', toks := tk }) :
    wpAny (model Challenge.rw_sn0075_01.row.prog w) (callerA.deeper (envOfC (Str.ofString "law") sc L fa cd)) (execs st (envOfC (Str.ofString "law") sc L fa cd)) Q (fun _ _ => False) s := by
  have heK := he15
  revert X; k_fill; intro X
  have he2 : lawSeg 14 2 = some ([_, _], _) := rfl
  have he6 : totSeg = some (_, _) := rfl
  rw [he] at he2
  cases he2
  clear he
  rw [known hm2] at F
  (iterate 11 (first | (dsimp only; walk1) | walk1))
  (rename Fr _ _ _ _ => kF); (rename News _ _ _ _ => kN); (rename (@LT.lt Nat _ _ _ ∧ @LT.lt Nat _ _ _ ∧ _) => kL)
  have h7 : @Ne Nat (L + 1 + 1 + 1 + 1 + 1) LL := Nat.ne_of_lt lR
  have hm0 : ∀ (TTx : Addr) z, z ≠ Str.ofString "totals" → (if z = Str.ofString "totals" then some (.ref TTx) else if z = Str.ofString "letters" then some (Value.ref LL) else m z) = m z := fun TTx z hz => by
    rw [if_neg hz]
    split
    · rename_i h; subst h; exact hm2.symm
    · rfl
  refine addr1 kN (fun TX hTX => ?_)
  subst hTX
  obtain ⟨k1, k2, k3⟩ := kL
  replace kN := news_sw kN
  with_unfolding_all refine' iter_turnsF (ax := LL) (lo := W.listOf vl.toArray nl) (fun i m' news => ∃ (TT : Addr) (vt : List Value) (nt : Nat) (o5' : Obj) (vo : Option Value), news = (TT, W.listOf vt.toArray nt) :: (L + 1 + 1 + 1 + 1 + 1, o5') :: rest ∧ IntsAre vt (totOf (lts.take i)) ∧ o5'.data = .cell vo ∧ m' (Str.ofString "totals") = some (.ref TT) ∧ @LT.lt Nat _ (L + 1 + 1 + 1 + 1 + 1) TT ∧ ∀ z, z ≠ Str.ofString "totals" → m' z = m z) rfl kF kN rfl rfl ?hax ?hj ?turn ?done
  case hax =>
    intro q hq
    rcases List.mem_cons.mp hq with rfl | hq
    · exact (Nat.ne_of_lt k1).symm
    · rcases List.mem_cons.mp hq with rfl | hq
      · exact h7
      · exact (hne q hq).2
  case hj => exact ⟨TX, [_], 0, o5, none, rfl, .cons _ _ .nil, c5, rfl, k2, hm0 TX⟩
  case turn =>
    rintro i v m₁ news₁ h tk own hv hsp ⟨TT, vt, nt, o5', vo, rfl, hIt, c5', hmt, lT, hs⟩ F1 N1
    have hi1 : i < lts.length := by rw [← hIl.length]; exact (List.getElem?_eq_some_iff.mp hv).1
    obtain ⟨tv, hx⟩ := hIl.get i lts[i] (List.getElem?_eq_getElem hi1)
    rw [hv] at hx
    cases hx
    have htk : lts.take (i + 1) = lts.take i ++ [lts[i]] := List.take_succ_eq_append_getElem hi1
    have hlen : (totOf (lts.take i)).length ≤ 16 := by
      rw [tot_len, List.length_take]
      exact Nat.le_trans (Nat.pow_le_pow_right (by decide) (by omega : min i lts.length ≤ 4)) (by decide)
    refine letter_set (rest := (LL, W.listOf vl.toArray nl) :: (TT, W.listOf vt.toArray nt) :: (rest ++ own)) heK B X T c5' (fun q hq => ?_) F1 (fun q hq => N1 q (by
      exact sub_app (by (k_extra "mine:sub")) hq)) fun o6 h1 tk1 c6 F2 N2 => ?_
    · rcases List.mem_cons.mp hq with rfl | hq
      · exact h7.symm
      · rcases List.mem_cons.mp hq with rfl | hq
        · exact (Nat.ne_of_lt lT).symm
        · rcases List.mem_append.mp hq with hq | hq
          · exact (hne q hq).1
          · exact (hsp q hq (_, o5') (by simp)).symm
    · refine tot_body (nt := nt) (rest := (LL, W.listOf vl.toArray nl) :: (rest ++ own)) he6 B X T c6 hmt hIt hlen F2 (fun q hq => N2 q (by
        exact sub_app (by (k_extra "mine:sub")) hq)) fun TT' vt' h3 tk3 m3 hI3 hm3 hk3 hlt F3 N3 => ?_
      refine ⟨rfl, h3, tk3, m3, (TT', W.listOf vt'.toArray 0) :: (L + 1 + 1 + 1 + 1 + 1, o6) :: rest, rfl, F3, fun q hq => N3 q (by
        exact sub_app (by (k_extra "mine:sub")) hq), fun q hq r hr => ?_, TT', vt', 0, o6, _, rfl, ?_, c6, hm3, hlt (L + 1 + 1 + 1 + 1 + 1, o6) (by simp), fun z hz => (hk3 z hz).trans (hs z hz)⟩
      · rcases List.mem_cons.mp hr with rfl | hr
        · exact (Nat.ne_of_lt (hlt q (by simp [hq]))).symm
        · rcases List.mem_cons.mp hr with rfl | hr
          · exact hsp q hq (_, o5') (by simp)
          · exact hsp q hq r (by simp [hr])
      · rw [htk, tot_snoc]
        exact hI3
  case done =>
    rintro m₁ news₁ h tk ⟨TT, vt, nt, o5', vo, rfl, hIt, c5', hmt, lT, hs⟩ F1 N1
    rw [hIl.length, List.take_of_length_le (Nat.le_refl _)] at hIt
    exact wpAny_execs_nil (kk TT vt nt o5' h tk m₁ hIt hmt (hs _ (by decide)) lT F1 (fun q hq => N1 q (.tail _ hq)))
end
end PartLh
section PartG3
theorem base_G3 : True := by
  w_top off
  k_with_none
  k_with "mine:step" => ((first | (k_unfold; (try dsimp only)) | (k_end; wrow_close) | walk1 | (dsimp only; walk1) | (leave1; walk_say "STEP leave1"; try dsimp only) | fail "no step"))
  k_with "storeName" => ((k_here; k_dflt (first | (refine' storeI ?FW7 ?NW7 ?_ ?aW7 ?bW7; (case FW7 => k_asm); (case NW7 => k_asm); (case aW7 => rfl); (case bW7 => rfl); k_whole; intro hq9 tq9 tkq9 Fq9 Nq9; (try k_sweep)) | (refine' storeU ?FW7 ?NW7 ?_ ?aW7 ?bW7; (case FW7 => k_asm); (case NW7 => k_asm); (case aW7 => rfl); (case bW7 => rfl); k_whole; intro hq9 tkq9 Fq9 Nq9; (try k_sweep)))))
  k_with "mine:pj" => (((rename (_ ∧ _) => z); first | exact z.1 | exact Zs z.1 | exact Zl z.1 | exact Zg z.1 | exact z.2 | exact Zs z.2 | exact Zl z.2 | exact Zg z.2 | exact z.2.1 | exact Zs z.2.1 | exact Zl z.2.1 | exact Zg z.2.1 | exact z.2.2 | exact Zs z.2.2 | exact Zl z.2.2 | exact Zg z.2.2 | exact z.2.2.1 | exact Zs z.2.2.1 | exact Zl z.2.2.1 | exact Zg z.2.2.1 | exact z.2.2.2 | exact Zs z.2.2.2 | exact Zl z.2.2.2 | exact Zg z.2.2.2 | exact z.2.2.2.1 | exact Zs z.2.2.2.1 | exact Zl z.2.2.2.1 | exact Zg z.2.2.2.1 | exact z.2.2.2.2 | exact Zs z.2.2.2.2 | exact Zl z.2.2.2.2 | exact Zg z.2.2.2.2 | exact z.2.2.2.2.1 | exact Zs z.2.2.2.2.1 | exact Zl z.2.2.2.2.1 | exact Zg z.2.2.2.2.1 | exact z.2.2.2.2.2 | exact Zs z.2.2.2.2.2 | exact Zl z.2.2.2.2.2 | exact Zg z.2.2.2.2.2 | exact z.2.2.2.2.2.1 | exact Zs z.2.2.2.2.2.1 | exact Zl z.2.2.2.2.2.1 | exact Zg z.2.2.2.2.2.1 | exact z.2.2.2.2.2.2 | exact Zs z.2.2.2.2.2.2 | exact Zl z.2.2.2.2.2.2 | exact Zg z.2.2.2.2.2.2 | exact z.2.2.2.2.2.2.1 | exact Zs z.2.2.2.2.2.2.1 | exact Zl z.2.2.2.2.2.2.1 | exact Zg z.2.2.2.2.2.2.1 | exact z.2.2.2.2.2.2.2 | exact Zs z.2.2.2.2.2.2.2 | exact Zl z.2.2.2.2.2.2.2 | exact Zg z.2.2.2.2.2.2.2 | exact z.2.2.2.2.2.2.2.1 | exact Zs z.2.2.2.2.2.2.2.1 | exact Zl z.2.2.2.2.2.2.2.1 | exact Zg z.2.2.2.2.2.2.2.1 | exact z.2.2.2.2.2.2.2.2 | exact Zs z.2.2.2.2.2.2.2.2 | exact Zl z.2.2.2.2.2.2.2.2 | exact Zg z.2.2.2.2.2.2.2.2 | exact z.2.2.2.2.2.2.2.2.1 | exact Zs z.2.2.2.2.2.2.2.2.1 | exact Zl z.2.2.2.2.2.2.2.2.1 | exact Zg z.2.2.2.2.2.2.2.2.1 | exact z.2.2.2.2.2.2.2.2.2.1 | exact Zs z.2.2.2.2.2.2.2.2.2.1 | exact Zl z.2.2.2.2.2.2.2.2.2.1 | exact Zg z.2.2.2.2.2.2.2.2.2.1 | exact z.2.2.2.2.2.2.2.2.2.2.1 | exact Zs z.2.2.2.2.2.2.2.2.2.2.1 | exact Zl z.2.2.2.2.2.2.2.2.2.2.1 | exact Zg z.2.2.2.2.2.2.2.2.2.2.1 | exact z.2.2.2.2.2.2.2.2.2.2.2.1 | exact Zs z.2.2.2.2.2.2.2.2.2.2.2.1 | exact Zl z.2.2.2.2.2.2.2.2.2.2.2.1 | exact Zg z.2.2.2.2.2.2.2.2.2.2.2.1 | exact z.2.2.2.2.2.2.2.2.2.2.2.2.1 | exact Zs z.2.2.2.2.2.2.2.2.2.2.2.2.1 | exact Zl z.2.2.2.2.2.2.2.2.2.2.2.2.1 | exact Zg z.2.2.2.2.2.2.2.2.2.2.2.2.1 | exact z.2.2.2.2.2.2.2.2.2.2.2.2.2.1 | exact Zs z.2.2.2.2.2.2.2.2.2.2.2.2.2.1 | exact Zl z.2.2.2.2.2.2.2.2.2.2.2.2.2.1 | exact Zg z.2.2.2.2.2.2.2.2.2.2.2.2.2.1 | (clear z; (k_extra "mine:pj"))))
  k_with "mine:ne" => (first | (with_reducible assumption) | exact Ne.symm (by with_reducible assumption) | exact ne_lt (by with_reducible assumption) | exact ne_gt (by with_reducible assumption) | exact ne_lt (lt_led (by with_reducible assumption) (by k_mem)) | exact ne_gt (lt_led (by with_reducible assumption) (by k_mem)) | ((try dsimp only); with_reducible (k_extra "mine:pj")) | assumption | exact Nat.ne_of_lt (Nat.lt_succ_self _) | exact Nat.ne_of_gt (Nat.lt_succ_self _) | (walk_say "K_NE OMEGA"; refine neN ?_; (try dsimp only); omega))
  k_with "mine:nes" => (first | (refine And.intro ?_ ?_ <;> (k_extra "mine:nes")) | k_ne)
  k_with "mine:in" => (first | (with_reducible exact List.mem_cons_self) | (with_reducible assumption) | ((with_reducible refine List.mem_cons_of_mem _ ?_); (k_extra "mine:in")) | exact List.mem_cons_self | (refine List.mem_cons_of_mem _ ?_; (k_extra "mine:in")) | (refine List.mem_append_left _ ?_; (k_extra "mine:in")) | (refine List.mem_append_right _ ?_; (k_extra "mine:in")))
  k_with "mine:sub" => (first | (with_reducible exact sub_id) | (with_reducible exact sub_nil) | ((with_reducible refine sub_cons ?haW7 ?hbW7); (case haW7 => (k_extra "mine:in")); (case hbW7 => (k_extra "mine:sub"))) | ((with_reducible refine sub_both ?haW7 ?hbW7); (case haW7 => (k_extra "mine:sub")); (case hbW7 => (k_extra "mine:sub"))) | ((with_reducible refine sub_skip ?_); (k_extra "mine:sub")) | ((with_reducible refine sub_right ?_); (k_extra "mine:sub")) | ((with_reducible refine sub_left ?_); (k_extra "mine:sub")) | (simp only [List.nil_append, List.cons_append]; (k_extra "mine:sub")))
  k_with "mine:keys" => (first | (k_dflt (exact keys_of rfl rfl)) | (walk_say "K_KEYS LONG"; repeat (first | exact True.intro | refine And.intro ⟨_, _, rfl, rfl⟩ ?_)))
  k_with "mine:enter0" => ((refine' enter0 ?k1W7 ?k2W7 ?k3W7 ?k4W7 ?kKW7 ?k8W7 ?k6W7 ?k7W7 ?k9W7 ?kBW7 ?_ ?c2W7 ?c3W7 ?c4W7 ?c5W7; (case kKW7 => assumption); (case k1W7 => k_asm); (case k2W7 => k_asm); (case k3W7 => k_asm); (case k4W7 => k_asm); (case k6W7 => k_is); (case k7W7 => k_is); (case k8W7 => ktr_room); (case k9W7 => exact BindsTo.of_eq rfl); (case c5W7 => decide); (case kBW7 => exact locs rfl); (case c2W7 => exact rfl); (case c3W7 => exact rfl); (case c4W7 => exact rfl); k_whole; intro Lq9 hq9 tkq9 Fq9 Nq9 Bq9 Xq9 Tq9; (try dsimp only); (try k_fold)))
  k_with "mine:ret" => (((all_goals (try dsimp only)); (all_goals (try k_unfold)); (all_goals (try dsimp only))))
  k_with "mine:same" => (first | exact fun _ _ => rfl | exact fun _ _ _ => rfl | exact same_fg | exact same_fgN | (refine same_upY ?_; (k_extra "mine:same")) | (refine same_up (by rfl) ?_; (k_extra "mine:same")) | (refine same_upN (by rfl) ?_; (k_extra "mine:same")) | (intros; (try dsimp only [forget, up]); (repeat' split); all_goals first | rfl | (exfalso; subst_vars; (rename (List.contains _ _ = false) => hz9); (revert hz9); decide) | (exfalso; (rename (List.contains _ _ = false) => hz9); (rename (List.contains _ _ = true) => hz8); rw [hz9] at hz8; exact Bool.noConfusion hz8) | (exfalso; subst_vars; contradiction)))
  trivial
open PySem PySem.W PySem.Calls PySem.Spec PyProof.Rows
noncomputable def thenOfIf : List Stmt → Option (List Stmt)
  | [] => none
  | .If _ b _ _ :: _ => some b
  | _ :: r => thenOfIf r
/-- what is done where no vector that stands alone tells -/
noncomputable def thenSeg (i n : Nat) : Option (List Stmt × Scope) := (ptSeg 3 1).bind fun x => (thenOfIf x.1).map fun b => ((b.drop i).take n, x.2)
noncomputable def tellG (ns : List Int) (pt : Int) (l : List Int) (k : Int) : List Int := if toldI ns pt k = 1 then l ++ [k] else l
theorem tell_grows (ns : List Int) (pt : Int) : KPfGrows (tellG ns pt) := by
  intro l k
  unfold tellG
  split
  · simp
  · omega
theorem tell_filter {ns : List Int} {pt : Int} {ks : List Int} : ks.foldl (tellG ns pt) [] = ks.filter fun v => decide (toldI ns pt v = 1) := by
  have key : ∀ (ks l : List Int), ks.foldl (tellG ns pt) l = l ++ ks.filter fun v => decide (toldI ns pt v = 1) := by
    intro ks
    induction ks with
    | nil => intro l; simp
    | cons k r ih =>
      intro l
      rw [List.foldl_cons, ih]
      unfold tellG
      by_cases h : toldI ns pt k = 1
      · rw [if_pos h, List.filter_cons_of_pos (by simp [h])]; simp
      · rw [if_neg h, List.filter_cons_of_neg (by simp [h])]
  rw [key]; rfl
section
variable {w : World} {s : Shared} {h₀ : Heap} {L fa A VL : Addr} {m mg mb : Str → Option Value} {p : Program} {loose : List Str} {mean : ExcName → Option Value} {cd : Value} {o3 o4 : Obj}
    {st : List Stmt} {sc : Scope} {Q : Flow → Shared → Prop} {th tp : Tok} {av vv : List Value} {ns al : List Int} {ka : Nat} {pt half : Int} {rest : List (Addr × Obj)}
theorem words_G3_1 : True := by
  k_with "CompSrcT" => ((k_here; fail "stop"))
  k_with "eval ListComp" => ((k_here; k_dflt (refine LCt.ListComp_T (F₀ := by k_asm) (by with_unfolding_all rfl) (by decide) (by rfl) (by decide) (by rfl) ?_)))
  k_with "call ref" => ((k_here; k_dflt ( (show wpAny _ _ (call (Value.ref 155) _) _ _ _); (rename News _ _ _ _ => kN9); (rename (_ ∈ al) => hk9); (rename (∀ x, x ∈ al → _) => ha9); (rename IntsAre vv ns => hI9); (rename List.length ns < 100 => hn9); (rename (0 ≤ pt ∧ _) => hp9); (refine' use_spec ?FW7 ?NW7 (spec_told (vs := vv) (ns := ns) ?BW7 ?F1W7 ?XW7 ?TW7 ?hkW7 ?dW7 ?uW7 ?hlW7 hI9 hn9 hp9 (ha9 _ hk9)) ?_); (case FW7 => k_asm); (case NW7 => k_asm); (case BW7 => k_asm); (case F1W7 => k_asm); (case XW7 => k_asm); (case TW7 => k_asm); (case hkW7 => rfl); (case dW7 => ktr_room); (case uW7 => ktr_units); (case hlW7 => exact ledger_lst kN9 (by k_mem)); (intro vq9 hq9 tkq9 Fq9 Nq9 Eq9 qq9; (obtain ⟨tv, qq9⟩ := qq9); subst qq9); (try k_sweep))))
  k_with "compareOp Eq ref ref" => ((k_here; (with_reducible show wpAny _ _ (compareOp CmpOp.Eq (Value.ref _) (Value.ref _)) _ _ _); k_dflt ((rename News _ _ _ _ => kN9); (rename IntsAre _ (List.filter _ _) => hy9); (refine' ke_eq_ints (ys := []) (ms := []) ?e1W7 ?e2W7 hy9 IntsAre.nil ?e5W7 ?_); (case e1W7 => exact ledger_lst kN9 (by k_mem)); (case e2W7 => exact ledger_list (vs := []) kN9 (by k_mem)); (case e5W7 => ktr_units))))
  trivial
set_option maxHeartbeats 4000000 in
theorem ptB (he : ptSeg 2 2 = some (st, sc))
    (B : Below callerA h₀ [] h₀) (X : (hd.heap_1 w.params).In h₀) (T : Top p loose mean mg mb h₀) (cp : o3.data = .cell (some (.int pt tp))) (cv : o4.data = .cell (some (.ref VL)))
    (hm1 : m (Str.ofString "alone") = some (.ref A)) (hm2 : m (Str.ofString "half") = some (.int half th)) (hIa : IntsAre av al) (hal : al.length ≤ 4) (ha : ∀ x ∈ al, 0 ≤ x ∧ x < (ns.length : Int)) (hIv : IntsAre vv ns) (hns : ns.length < 100) (hpt : 0 ≤ pt ∧ pt < (ns.length : Int))
    (F : Fr h₀ L s.heap m) (N : News h₀ L s.heap ((A, W.listOf av.toArray ka) :: (VL, LCg.lst vv) :: (L + 1 + 1 + 1 + 1, o4) :: (L + 1 + 1 + 1, o3) :: rest))
    (k1 : (al.filter fun v => decide (toldI ns pt v = 1)) = [] → ∀ (t : Tok) (h' : Heap) (tk : Nat) (m' : Str → Option Value) (st' : List Stmt), thenSeg 0 3 = some (st', sc) → m' (Str.ofString "due") = some (.int half t) → (∀ z, z ≠ Str.ofString "due" → m' z = m z) → Fr h₀ L h' m' → News h₀ L h' ((A, W.listOf av.toArray ka) :: (VL, LCg.lst vv) :: (L + 1 + 1 + 1 + 1, o4) :: (L + 1 + 1 + 1, o3) :: rest) →
      wpAny (model Challenge.rw_sn0075_01.row.prog w) (callerA.deeper (envOfC (Str.ofString "law") sc L fa cd)) (execs st' (envOfC (Str.ofString "law") sc L fa cd)) Q (fun _ _ => False) { s with heap := h', toks := tk })
    (k2 : (al.filter fun v => decide (toldI ns pt v = 1)) ≠ [] → ∀ (t : Tok) (h' : Heap) (tk : Nat) (m' : Str → Option Value), m' (Str.ofString "due") = some (.int half t) → (∀ z, z ≠ Str.ofString "due" → m' z = m z) → Fr h₀ L h' m' → News h₀ L h' ((A, W.listOf av.toArray ka) :: (VL, LCg.lst vv) :: (L + 1 + 1 + 1 + 1, o4) :: (L + 1 + 1 + 1, o3) :: rest) → Q .next { s with heap := h', toks := tk }) :
    wpAny (model Challenge.rw_sn0075_01.row.prog w) (callerA.deeper (envOfC (Str.ofString "law") sc L fa cd)) (execs st (envOfC (Str.ofString "law") sc L fa cd)) Q (fun _ _ => False) s := by
  revert X; k_fill; intro X
  have he2 : ptSeg 2 2 = some ([_, _], _) := rfl
  have he3 : thenSeg 0 3 = some ([_, _, _], _) := rfl
  rw [he] at he2
  cases he2
  clear he
  rw [known hm1, known hm2] at F
  repeat (first | (dsimp only; walk1) | walk1)
  (rename Fr _ _ _ _ => kF); (rename News _ _ _ _ => kN)
  refine LCt.CompSrcT.ledger (its := av.toArray) (k := ka) ?z1 kF kN (.head _) ?zz ?_
  case z1 => rfl
  case zz => exact kmk_sz hIa (Nat.le_trans hal (by rw [sizeLine_eq]; decide))
  intro g'
  clear kF kN
  refine' kci_list (tellG ns pt) hIa (fun k' t' I' oI' C' oC' D' m' ys' l' h' tk' E' hk' hI' hC' hx' F' N' off' ne' hMark' => ?_) ?_ ?_
  · clear ne' hMark'
    repeat (first | (dsimp only; walk1) | walk1)
    · (rename Fr _ _ _ _ => kF); (rename News _ _ _ _ => kN); (rename (toldI _ _ _ = 1) => kh9)
      exact LCg.CompEnd.intro kF kN _ (fun _ hp => hp) off' (Or.inr ⟨_, .head _, rfl, _, rfl⟩) ⟨rfl, k', t', rfl, if_pos kh9⟩
    · (rename Fr _ _ _ _ => kF); (rename News _ _ _ _ => kN); (rename (¬ toldI _ _ _ = 1) => kh9)
      exact LCg.CompEnd.intro kF kN _ (fun _ hp => hp) off' (Or.inr ⟨_, .head _, rfl, _, rfl⟩) ⟨rfl, if_neg kh9⟩
  · (unfold KPfDone); intro ys' hy' hn'
    (unfold LCg.FinE); intro D' h' tk' F' N' o1'
    dsimp only
    rw [tell_filter] at hy'
    have hmz : ∀ (tw : Tok) z, z ≠ Str.ofString "due" → (if z = Str.ofString "due" then some (Value.int half tw) else if z = Str.ofString "alone" then some (Value.ref A) else if z = Str.ofString "half" then some (Value.int half th) else m z) = m z := by
      intro tw z hz
      rw [if_neg hz]
      split
      · rename_i h; subst h; exact hm1.symm
      · split
        · rename_i h; subst h; exact hm2.symm
        · rfl
    (iterate 6 (first | (dsimp only; walk1) | walk1))
    · (rename Fr _ _ _ _ => kF); (rename News _ _ _ _ => kN); (rename (decide (_ = []) = true) => hz9)
      refine wpAny_mono (k1 (of_decide_eq_true hz9) _ _ _ _ _ he3 (by exact rfl) (hmz _) kF (fun q hq => kN q (.tail _ (.tail _ hq)))) ?z3 (fun _ _ e => e)
      case z3 =>
        intro f s' hq
        cases f with
        | next => exact wpAny_execs_nil hq
        | ret v => exact hq
        | brk => exact hq
        | cont => exact hq
    · (rename Fr _ _ _ _ => kF); (rename News _ _ _ _ => kN); (rename (decide (_ = []) = false) => hz9)
      refine wpAny_execs_nil (wpAny_execs_nil ?_)
      exact k2 (of_decide_eq_false hz9) _ _ _ _ (by exact rfl) (hmz _) kF (fun q hq => kN q (.tail _ (.tail _ hq)))
  · exact tell_grows _ _
end
end PartG3
section PartG2b
theorem base_G2b : True := by
  w_top off
  k_with_none
  k_with "mine:step" => ((first | (k_unfold; (try dsimp only)) | (k_end; wrow_close) | walk1 | (dsimp only; walk1) | (leave1; walk_say "STEP leave1"; try dsimp only) | fail "no step"))
  k_with "storeName" => ((k_here; k_dflt (first | (refine' storeI ?FW7 ?NW7 ?_ ?aW7 ?bW7; (case FW7 => k_asm); (case NW7 => k_asm); (case aW7 => rfl); (case bW7 => rfl); k_whole; intro hq9 tq9 tkq9 Fq9 Nq9; (try k_sweep)) | (refine' storeU ?FW7 ?NW7 ?_ ?aW7 ?bW7; (case FW7 => k_asm); (case NW7 => k_asm); (case aW7 => rfl); (case bW7 => rfl); k_whole; intro hq9 tkq9 Fq9 Nq9; (try k_sweep)))))
  k_with "mine:pj" => (((rename (_ ∧ _) => z); first | exact z.1 | exact Zs z.1 | exact Zl z.1 | exact Zg z.1 | exact z.2 | exact Zs z.2 | exact Zl z.2 | exact Zg z.2 | exact z.2.1 | exact Zs z.2.1 | exact Zl z.2.1 | exact Zg z.2.1 | exact z.2.2 | exact Zs z.2.2 | exact Zl z.2.2 | exact Zg z.2.2 | exact z.2.2.1 | exact Zs z.2.2.1 | exact Zl z.2.2.1 | exact Zg z.2.2.1 | exact z.2.2.2 | exact Zs z.2.2.2 | exact Zl z.2.2.2 | exact Zg z.2.2.2 | exact z.2.2.2.1 | exact Zs z.2.2.2.1 | exact Zl z.2.2.2.1 | exact Zg z.2.2.2.1 | exact z.2.2.2.2 | exact Zs z.2.2.2.2 | exact Zl z.2.2.2.2 | exact Zg z.2.2.2.2 | exact z.2.2.2.2.1 | exact Zs z.2.2.2.2.1 | exact Zl z.2.2.2.2.1 | exact Zg z.2.2.2.2.1 | exact z.2.2.2.2.2 | exact Zs z.2.2.2.2.2 | exact Zl z.2.2.2.2.2 | exact Zg z.2.2.2.2.2 | exact z.2.2.2.2.2.1 | exact Zs z.2.2.2.2.2.1 | exact Zl z.2.2.2.2.2.1 | exact Zg z.2.2.2.2.2.1 | exact z.2.2.2.2.2.2 | exact Zs z.2.2.2.2.2.2 | exact Zl z.2.2.2.2.2.2 | exact Zg z.2.2.2.2.2.2 | exact z.2.2.2.2.2.2.1 | exact Zs z.2.2.2.2.2.2.1 | exact Zl z.2.2.2.2.2.2.1 | exact Zg z.2.2.2.2.2.2.1 | exact z.2.2.2.2.2.2.2 | exact Zs z.2.2.2.2.2.2.2 | exact Zl z.2.2.2.2.2.2.2 | exact Zg z.2.2.2.2.2.2.2 | exact z.2.2.2.2.2.2.2.1 | exact Zs z.2.2.2.2.2.2.2.1 | exact Zl z.2.2.2.2.2.2.2.1 | exact Zg z.2.2.2.2.2.2.2.1 | exact z.2.2.2.2.2.2.2.2 | exact Zs z.2.2.2.2.2.2.2.2 | exact Zl z.2.2.2.2.2.2.2.2 | exact Zg z.2.2.2.2.2.2.2.2 | exact z.2.2.2.2.2.2.2.2.1 | exact Zs z.2.2.2.2.2.2.2.2.1 | exact Zl z.2.2.2.2.2.2.2.2.1 | exact Zg z.2.2.2.2.2.2.2.2.1 | exact z.2.2.2.2.2.2.2.2.2.1 | exact Zs z.2.2.2.2.2.2.2.2.2.1 | exact Zl z.2.2.2.2.2.2.2.2.2.1 | exact Zg z.2.2.2.2.2.2.2.2.2.1 | exact z.2.2.2.2.2.2.2.2.2.2.1 | exact Zs z.2.2.2.2.2.2.2.2.2.2.1 | exact Zl z.2.2.2.2.2.2.2.2.2.2.1 | exact Zg z.2.2.2.2.2.2.2.2.2.2.1 | exact z.2.2.2.2.2.2.2.2.2.2.2.1 | exact Zs z.2.2.2.2.2.2.2.2.2.2.2.1 | exact Zl z.2.2.2.2.2.2.2.2.2.2.2.1 | exact Zg z.2.2.2.2.2.2.2.2.2.2.2.1 | exact z.2.2.2.2.2.2.2.2.2.2.2.2.1 | exact Zs z.2.2.2.2.2.2.2.2.2.2.2.2.1 | exact Zl z.2.2.2.2.2.2.2.2.2.2.2.2.1 | exact Zg z.2.2.2.2.2.2.2.2.2.2.2.2.1 | exact z.2.2.2.2.2.2.2.2.2.2.2.2.2.1 | exact Zs z.2.2.2.2.2.2.2.2.2.2.2.2.2.1 | exact Zl z.2.2.2.2.2.2.2.2.2.2.2.2.2.1 | exact Zg z.2.2.2.2.2.2.2.2.2.2.2.2.2.1 | (clear z; (k_extra "mine:pj"))))
  k_with "mine:ne" => (first | (with_reducible assumption) | exact Ne.symm (by with_reducible assumption) | exact ne_lt (by with_reducible assumption) | exact ne_gt (by with_reducible assumption) | exact ne_lt (lt_led (by with_reducible assumption) (by k_mem)) | exact ne_gt (lt_led (by with_reducible assumption) (by k_mem)) | ((try dsimp only); with_reducible (k_extra "mine:pj")) | assumption | exact Nat.ne_of_lt (Nat.lt_succ_self _) | exact Nat.ne_of_gt (Nat.lt_succ_self _) | (walk_say "K_NE OMEGA"; refine neN ?_; (try dsimp only); omega))
  k_with "mine:nes" => (first | (refine And.intro ?_ ?_ <;> (k_extra "mine:nes")) | k_ne)
  k_with "mine:in" => (first | (with_reducible exact List.mem_cons_self) | (with_reducible assumption) | ((with_reducible refine List.mem_cons_of_mem _ ?_); (k_extra "mine:in")) | exact List.mem_cons_self | (refine List.mem_cons_of_mem _ ?_; (k_extra "mine:in")) | (refine List.mem_append_left _ ?_; (k_extra "mine:in")) | (refine List.mem_append_right _ ?_; (k_extra "mine:in")))
  k_with "mine:sub" => (first | (with_reducible exact sub_id) | (with_reducible exact sub_nil) | ((with_reducible refine sub_cons ?haW7 ?hbW7); (case haW7 => (k_extra "mine:in")); (case hbW7 => (k_extra "mine:sub"))) | ((with_reducible refine sub_both ?haW7 ?hbW7); (case haW7 => (k_extra "mine:sub")); (case hbW7 => (k_extra "mine:sub"))) | ((with_reducible refine sub_skip ?_); (k_extra "mine:sub")) | ((with_reducible refine sub_right ?_); (k_extra "mine:sub")) | ((with_reducible refine sub_left ?_); (k_extra "mine:sub")) | (simp only [List.nil_append, List.cons_append]; (k_extra "mine:sub")))
  k_with "mine:keys" => (first | (k_dflt (exact keys_of rfl rfl)) | (walk_say "K_KEYS LONG"; repeat (first | exact True.intro | refine And.intro ⟨_, _, rfl, rfl⟩ ?_)))
  k_with "mine:enter0" => ((refine' enter0 ?k1W7 ?k2W7 ?k3W7 ?k4W7 ?kKW7 ?k8W7 ?k6W7 ?k7W7 ?k9W7 ?kBW7 ?_ ?c2W7 ?c3W7 ?c4W7 ?c5W7; (case kKW7 => assumption); (case k1W7 => k_asm); (case k2W7 => k_asm); (case k3W7 => k_asm); (case k4W7 => k_asm); (case k6W7 => k_is); (case k7W7 => k_is); (case k8W7 => ktr_room); (case k9W7 => exact BindsTo.of_eq rfl); (case c5W7 => decide); (case kBW7 => exact locs rfl); (case c2W7 => exact rfl); (case c3W7 => exact rfl); (case c4W7 => exact rfl); k_whole; intro Lq9 hq9 tkq9 Fq9 Nq9 Bq9 Xq9 Tq9; (try dsimp only); (try k_fold)))
  k_with "mine:ret" => (((all_goals (try dsimp only)); (all_goals (try k_unfold)); (all_goals (try dsimp only))))
  k_with "mine:same" => (first | exact fun _ _ => rfl | exact fun _ _ _ => rfl | exact same_fg | exact same_fgN | (refine same_upY ?_; (k_extra "mine:same")) | (refine same_up (by rfl) ?_; (k_extra "mine:same")) | (refine same_upN (by rfl) ?_; (k_extra "mine:same")) | (intros; (try dsimp only [forget, up]); (repeat' split); all_goals first | rfl | (exfalso; subst_vars; (rename (List.contains _ _ = false) => hz9); (revert hz9); decide) | (exfalso; (rename (List.contains _ _ = false) => hz9); (rename (List.contains _ _ = true) => hz8); rw [hz9] at hz8; exact Bool.noConfusion hz8) | (exfalso; subst_vars; contradiction)))
  trivial
open PySem PySem.W PySem.Calls PySem.Spec PyProof.Rows
section
variable {w : World} {s : Shared} {h₀ : Heap} {L fa TT : Addr} {m mg mb : Str → Option Value} {p : Program} {loose : List Str} {mean : ExcName → Option Value} {cd : Value} {o3 oz : Obj}
    {st : List Stmt} {sc : Scope} {Q : Flow → Shared → Prop} {tz tw tp : Tok} {vt : List Value} {ns tots : List Int} {nt : Nat} {pt : Int} {rest : List (Addr × Obj)}
theorem words_G2b_1 : True := by
  k_with "pyIter ref" => ((k_here; (with_reducible show wpAny _ _ (pyIter (Value.ref _)) (fun it s₂ => LoopAtV _ _ _ _ _ _ _ _ _ it s₂) _ _); k_dflt ( (rename Fr _ _ _ _ => kF9); (rename News _ _ _ _ => kN9); (with_unfolding_all refine' range_fold (n := 16) (Str.ofString "price") (fun a k => a + costI ns (tots.getD pt.toNat 0) k) ?hhW7 ?hrW7 ?hsW7 ?hnW7 kF9 kN9 ?hyW7 ?_ ?_); (case hhW7 => rfl); (case hrW7 => k_asm); (case hsW7 => decide +kernel); (case hnW7 => first | exact rangeSize_nat _ _ | rfl); (case hyW7 => exact rfl); (all_goals clear kF9 kN9))))
  k_with "subscriptTail" => ((k_here; (with_reducible show wpAny _ _ (subscriptTail _ _ (Value.str _ _) (Value.int _ _)) _ _ _); k_dflt (first | (with_reducible refine KXi.item (x := wordOf ns) (n := 16) (by assumption) (by omega) (by omega) (by decide) ?_) | (with_reducible refine KXi.item (i := Builtin.bitAnd _ 1) (by kxi_len) (by exact Int.le_trans (by decide) (bit_01 _).1) (by exact Int.lt_of_le_of_lt (bit_01 _).2 (by decide)) (by decide) ?_)); intro kxiE; clear kxiE))
  k_with "call ref" => ((k_here; k_dflt ( (show wpAny _ _ (call (Value.ref 115) _) _ _ _); (rename (0 ≤ _) => hk9); (rename (_ < 0 + _) => hl9); (rename List.length ns = _ => hns9); (rename (∀ x, x ∈ ns → _) => h019); (refine' use_spec ?FW7 ?NW7 (spec_subst ?BW7 ?F1W7 ?XW7 ?TW7 ?hkW7 ?dW7 ?uW7 ?hxW7 ?hyW7) ?_); (case FW7 => k_asm); (case NW7 => k_asm); (case BW7 => k_asm); (case F1W7 => k_asm); (case XW7 => k_asm); (case TW7 => k_asm); (case hkW7 => rfl); (case dW7 => ktr_room); (case uW7 => ktr_units); (case hxW7 => exact word_at hns9 h019 hk9 (Int.lt_of_lt_of_le hl9 (by decide))); (case hyW7 => exact item_xX (bit_01 _).1 (bit_01 _).2); (intro vq9 hq9 tkq9 Fq9 Nq9 Eq9 qq9; (obtain ⟨tv, qq9⟩ := qq9); subst qq9); (try k_sweep))))
  trivial
set_option maxHeartbeats 4000000 in
theorem ptA4 (he : ptSeg 0 2 = some (st, sc))
    (B : Below callerA h₀ [] h₀) (X : (hd.heap_1 w.params).In h₀) (T : Top p loose mean mg mb h₀) (cz : oz.data = .cell (some (.int 4 tz))) (cp : o3.data = .cell (some (.int pt tp)))
    (hm1 : m (Str.ofString "word") = some (.str (wordOf ns) tw)) (hm2 : m (Str.ofString "totals") = some (.ref TT)) (hIt : IntsAre vt tots) (hns : ns.length = 16) (htl : tots.length = 16) (hpt : 0 ≤ pt ∧ pt < tots.length) (h01 : ∀ x ∈ ns, 0 ≤ x ∧ x ≤ 1)
    (F : Fr h₀ L s.heap m) (N : News h₀ L s.heap ((TT, W.listOf vt.toArray nt) :: (L + 1 + 1 + 1, o3) :: (L + 1, oz) :: rest))
    (kk : ∀ (t : Tok) (h' : Heap) (tk : Nat) (m' : Str → Option Value), m' (Str.ofString "price") = some (.int (priceI 16 ns (tots.getD pt.toNat 0)) t) → (∀ z, [Str.ofString "place", Str.ofString "price"].contains z = false → m' z = m z) → Fr h₀ L h' m' →
      News h₀ L h' ((TT, W.listOf vt.toArray nt) :: (L + 1 + 1 + 1, o3) :: (L + 1, oz) :: rest) → Q .next { s with heap := h', toks := tk }) :
    wpAny (model Challenge.rw_sn0075_01.row.prog w) (callerA.deeper (envOfC (Str.ofString "law") sc L fa cd)) (execs st (envOfC (Str.ofString "law") sc L fa cd)) Q (fun _ _ => False) s := by
  revert X; k_fill; intro X
  have he2 : ptSeg 0 2 = some ([_, _], _) := rfl
  rw [he] at he2
  cases he2
  clear he
  have hwl := word_len ns
  rw [hns] at hwl
  rw [known hm1, known hm2] at F
  repeat (first | (dsimp only; walk1) | walk1)
  · (rename Fr _ _ _ _ => kF); (rename News _ _ _ _ => kN)
    exact InvEndN.intro kF kN ⟨rfl, ⟨_, rfl⟩, fun z z1 z2 => by simp only [if_neg z1, if_neg z2]⟩ rfl (fun p hp => List.mem_append_left _ hp) (fun p hp => List.mem_append_right _ hp)
  · repeat (first | (dsimp only; walk1) | walk1)
    (rename Fr _ _ _ _ => kF); (rename News _ _ _ _ => kN)
    refine kk _ _ _ _ rfl ?_ kF kN
    intro z hz
    have z1 : z ≠ Str.ofString "place" := by rintro rfl; revert hz; decide
    have z2 : z ≠ Str.ofString "price" := by rintro rfl; revert hz; decide
    simp only [if_neg z1, if_neg z2]
    split
    · rename_i h; subst h; exact hm1.symm
    · split
      · rename_i h; subst h; exact hm2.symm
      · rfl
end
end PartG2b
section PartG4
theorem base_G4 : True := by
  w_top off
  k_with_none
  k_with "mine:step" => ((first | (k_unfold; (try dsimp only)) | (k_end; wrow_close) | walk1 | (dsimp only; walk1) | (leave1; walk_say "STEP leave1"; try dsimp only) | fail "no step"))
  k_with "storeName" => ((k_here; k_dflt (first | (refine' storeI ?FW7 ?NW7 ?_ ?aW7 ?bW7; (case FW7 => k_asm); (case NW7 => k_asm); (case aW7 => rfl); (case bW7 => rfl); k_whole; intro hq9 tq9 tkq9 Fq9 Nq9; (try k_sweep)) | (refine' storeU ?FW7 ?NW7 ?_ ?aW7 ?bW7; (case FW7 => k_asm); (case NW7 => k_asm); (case aW7 => rfl); (case bW7 => rfl); k_whole; intro hq9 tkq9 Fq9 Nq9; (try k_sweep)))))
  k_with "mine:pj" => (((rename (_ ∧ _) => z); first | exact z.1 | exact Zs z.1 | exact Zl z.1 | exact Zg z.1 | exact z.2 | exact Zs z.2 | exact Zl z.2 | exact Zg z.2 | exact z.2.1 | exact Zs z.2.1 | exact Zl z.2.1 | exact Zg z.2.1 | exact z.2.2 | exact Zs z.2.2 | exact Zl z.2.2 | exact Zg z.2.2 | exact z.2.2.1 | exact Zs z.2.2.1 | exact Zl z.2.2.1 | exact Zg z.2.2.1 | exact z.2.2.2 | exact Zs z.2.2.2 | exact Zl z.2.2.2 | exact Zg z.2.2.2 | exact z.2.2.2.1 | exact Zs z.2.2.2.1 | exact Zl z.2.2.2.1 | exact Zg z.2.2.2.1 | exact z.2.2.2.2 | exact Zs z.2.2.2.2 | exact Zl z.2.2.2.2 | exact Zg z.2.2.2.2 | exact z.2.2.2.2.1 | exact Zs z.2.2.2.2.1 | exact Zl z.2.2.2.2.1 | exact Zg z.2.2.2.2.1 | exact z.2.2.2.2.2 | exact Zs z.2.2.2.2.2 | exact Zl z.2.2.2.2.2 | exact Zg z.2.2.2.2.2 | exact z.2.2.2.2.2.1 | exact Zs z.2.2.2.2.2.1 | exact Zl z.2.2.2.2.2.1 | exact Zg z.2.2.2.2.2.1 | exact z.2.2.2.2.2.2 | exact Zs z.2.2.2.2.2.2 | exact Zl z.2.2.2.2.2.2 | exact Zg z.2.2.2.2.2.2 | exact z.2.2.2.2.2.2.1 | exact Zs z.2.2.2.2.2.2.1 | exact Zl z.2.2.2.2.2.2.1 | exact Zg z.2.2.2.2.2.2.1 | exact z.2.2.2.2.2.2.2 | exact Zs z.2.2.2.2.2.2.2 | exact Zl z.2.2.2.2.2.2.2 | exact Zg z.2.2.2.2.2.2.2 | exact z.2.2.2.2.2.2.2.1 | exact Zs z.2.2.2.2.2.2.2.1 | exact Zl z.2.2.2.2.2.2.2.1 | exact Zg z.2.2.2.2.2.2.2.1 | exact z.2.2.2.2.2.2.2.2 | exact Zs z.2.2.2.2.2.2.2.2 | exact Zl z.2.2.2.2.2.2.2.2 | exact Zg z.2.2.2.2.2.2.2.2 | exact z.2.2.2.2.2.2.2.2.1 | exact Zs z.2.2.2.2.2.2.2.2.1 | exact Zl z.2.2.2.2.2.2.2.2.1 | exact Zg z.2.2.2.2.2.2.2.2.1 | exact z.2.2.2.2.2.2.2.2.2.1 | exact Zs z.2.2.2.2.2.2.2.2.2.1 | exact Zl z.2.2.2.2.2.2.2.2.2.1 | exact Zg z.2.2.2.2.2.2.2.2.2.1 | exact z.2.2.2.2.2.2.2.2.2.2.1 | exact Zs z.2.2.2.2.2.2.2.2.2.2.1 | exact Zl z.2.2.2.2.2.2.2.2.2.2.1 | exact Zg z.2.2.2.2.2.2.2.2.2.2.1 | exact z.2.2.2.2.2.2.2.2.2.2.2.1 | exact Zs z.2.2.2.2.2.2.2.2.2.2.2.1 | exact Zl z.2.2.2.2.2.2.2.2.2.2.2.1 | exact Zg z.2.2.2.2.2.2.2.2.2.2.2.1 | exact z.2.2.2.2.2.2.2.2.2.2.2.2.1 | exact Zs z.2.2.2.2.2.2.2.2.2.2.2.2.1 | exact Zl z.2.2.2.2.2.2.2.2.2.2.2.2.1 | exact Zg z.2.2.2.2.2.2.2.2.2.2.2.2.1 | exact z.2.2.2.2.2.2.2.2.2.2.2.2.2.1 | exact Zs z.2.2.2.2.2.2.2.2.2.2.2.2.2.1 | exact Zl z.2.2.2.2.2.2.2.2.2.2.2.2.2.1 | exact Zg z.2.2.2.2.2.2.2.2.2.2.2.2.2.1 | (clear z; (k_extra "mine:pj"))))
  k_with "mine:ne" => (first | (with_reducible assumption) | exact Ne.symm (by with_reducible assumption) | exact ne_lt (by with_reducible assumption) | exact ne_gt (by with_reducible assumption) | exact ne_lt (lt_led (by with_reducible assumption) (by k_mem)) | exact ne_gt (lt_led (by with_reducible assumption) (by k_mem)) | ((try dsimp only); with_reducible (k_extra "mine:pj")) | assumption | exact Nat.ne_of_lt (Nat.lt_succ_self _) | exact Nat.ne_of_gt (Nat.lt_succ_self _) | (walk_say "K_NE OMEGA"; refine neN ?_; (try dsimp only); omega))
  k_with "mine:nes" => (first | (refine And.intro ?_ ?_ <;> (k_extra "mine:nes")) | k_ne)
  k_with "mine:in" => (first | (with_reducible exact List.mem_cons_self) | (with_reducible assumption) | ((with_reducible refine List.mem_cons_of_mem _ ?_); (k_extra "mine:in")) | exact List.mem_cons_self | (refine List.mem_cons_of_mem _ ?_; (k_extra "mine:in")) | (refine List.mem_append_left _ ?_; (k_extra "mine:in")) | (refine List.mem_append_right _ ?_; (k_extra "mine:in")))
  k_with "mine:sub" => (first | (with_reducible exact sub_id) | (with_reducible exact sub_nil) | ((with_reducible refine sub_cons ?haW7 ?hbW7); (case haW7 => (k_extra "mine:in")); (case hbW7 => (k_extra "mine:sub"))) | ((with_reducible refine sub_both ?haW7 ?hbW7); (case haW7 => (k_extra "mine:sub")); (case hbW7 => (k_extra "mine:sub"))) | ((with_reducible refine sub_skip ?_); (k_extra "mine:sub")) | ((with_reducible refine sub_right ?_); (k_extra "mine:sub")) | ((with_reducible refine sub_left ?_); (k_extra "mine:sub")) | (simp only [List.nil_append, List.cons_append]; (k_extra "mine:sub")))
  k_with "mine:keys" => (first | (k_dflt (exact keys_of rfl rfl)) | (walk_say "K_KEYS LONG"; repeat (first | exact True.intro | refine And.intro ⟨_, _, rfl, rfl⟩ ?_)))
  k_with "mine:enter0" => ((refine' enter0 ?k1W7 ?k2W7 ?k3W7 ?k4W7 ?kKW7 ?k8W7 ?k6W7 ?k7W7 ?k9W7 ?kBW7 ?_ ?c2W7 ?c3W7 ?c4W7 ?c5W7; (case kKW7 => assumption); (case k1W7 => k_asm); (case k2W7 => k_asm); (case k3W7 => k_asm); (case k4W7 => k_asm); (case k6W7 => k_is); (case k7W7 => k_is); (case k8W7 => ktr_room); (case k9W7 => exact BindsTo.of_eq rfl); (case c5W7 => decide); (case kBW7 => exact locs rfl); (case c2W7 => exact rfl); (case c3W7 => exact rfl); (case c4W7 => exact rfl); k_whole; intro Lq9 hq9 tkq9 Fq9 Nq9 Bq9 Xq9 Tq9; (try dsimp only); (try k_fold)))
  k_with "mine:ret" => (((all_goals (try dsimp only)); (all_goals (try k_unfold)); (all_goals (try dsimp only))))
  k_with "mine:same" => (first | exact fun _ _ => rfl | exact fun _ _ _ => rfl | exact same_fg | exact same_fgN | (refine same_upY ?_; (k_extra "mine:same")) | (refine same_up (by rfl) ?_; (k_extra "mine:same")) | (refine same_upN (by rfl) ?_; (k_extra "mine:same")) | (intros; (try dsimp only [forget, up]); (repeat' split); all_goals first | rfl | (exfalso; subst_vars; (rename (List.contains _ _ = false) => hz9); (revert hz9); decide) | (exfalso; (rename (List.contains _ _ = false) => hz9); (rename (List.contains _ _ = true) => hz8); rw [hz9] at hz8; exact Bool.noConfusion hz8) | (exfalso; subst_vars; contradiction)))
  trivial
open PySem PySem.W PySem.Calls PySem.Spec PyProof.Rows
theorem words_G4_1 : True := by
  k_with "InvEndN" => ((with_reducible refine stay ?_))
  trivial
noncomputable def turnsI (ns : List Int) (pt : Int) (prs : List (Int × Int)) : Int := prs.foldl (fun t q => Builtin.bitXor t (Builtin.bitAnd (toldI ns pt q.1) (toldI ns pt q.2))) 0
/-- the tuples of a list of pairs stand in the ledger -/
noncomputable def TupsIn (rest : List (Addr × Obj)) (pv : List Value) (prs : List (Int × Int)) : Prop :=
  pv.length = prs.length ∧ ∀ (i : Nat) (v : Value) (q : Int × Int), pv[i]? = some v → prs[i]? = some q → ∃ (T : Addr) (ta tb : Tok), v = .ref T ∧ (T, tupObj #[.int q.1 ta, .int q.2 tb]) ∈ rest
theorem turns_snoc {ns : List Int} {pt : Int} {l : List (Int × Int)} {q : Int × Int} : turnsI ns pt (l ++ [q]) = Builtin.bitXor (turnsI ns pt l) (Builtin.bitAnd (toldI ns pt q.1) (toldI ns pt q.2)) := by
  unfold turnsI
  rw [List.foldl_append]
  rfl
theorem pow_bits {x : Int} (h : x ≤ 3) : Builtin.Int.intBits ((2 : Int) ^ Int.toNat x) ≤ 64 := by
  have h1 : Int.toNat x ≤ 3 := by omega
  generalize Int.toNat x = e at *
  have h2 : e = 0 ∨ e = 1 ∨ e = 2 ∨ e = 3 := by omega
  rcases h2 with rfl | rfl | rfl | rfl <;> decide +kernel
section
variable {w : World} {s : Shared} {h₀ : Heap} {L fa P VL : Addr} {m mg mb : Str → Option Value} {p : Program} {loose : List Str} {mean : ExcName → Option Value} {cd : Value} {o3 o4 oz : Obj}
    {st : List Stmt} {sc : Scope} {Q : Flow → Shared → Prop} {tz td tp : Tok} {vv pv : List Value} {ns : List Int} {prs : List (Int × Int)} {kp : Nat} {pt due : Int} {rest : List (Addr × Obj)}
theorem words_G4_2 : True := by
  k_with "exec For Tuple Name cons nil" => ((k_here; (rename Fr _ _ _ _ => lFq9); (with_unfolding_all refine' For_turns lFq9 ?_); k_whole))
  k_with "call ref" => ((k_here; k_dflt ( (show wpAny _ _ (call (Value.ref 155) _) _ _ _); (rename News _ _ _ _ => kN9); (rename IntsAre vv ns => hI9); (rename List.length ns < 100 => hn9); (rename (0 ≤ pt ∧ _) => hp9); (refine' use_spec ?FW7 ?NW7 (spec_told (vs := vv) (ns := ns) ?BW7 ?F1W7 ?XW7 ?TW7 ?hkW7 ?dW7 ?uW7 ?hlW7 hI9 hn9 hp9 ?hyW7) ?_); (case FW7 => k_asm); (case NW7 => k_asm); (case BW7 => k_asm); (case F1W7 => k_asm); (case XW7 => k_asm); (case TW7 => k_asm); (case hkW7 => rfl); (case dW7 => ktr_room); (case uW7 => ktr_units); (case hlW7 => exact ledger_lst kN9 (by k_mem)); (case hyW7 => assumption); (intro vq9 hq9 tkq9 Fq9 Nq9 Eq9 qq9; (obtain ⟨tv, qq9⟩ := qq9); subst qq9); (try k_sweep))))
  k_with "call builtin:len" => ((k_here; (with_reducible show wpAny _ _ (call (Value.builtin "len") [Value.ref _]) _ _ _); k_dflt ((rename TupsIn rest pv prs => hT9); (rename (@LE.le Nat _ (List.length pv) 2) => h29); (rename News _ _ _ _ => kN9); (refine' kun_lenL (items := pv.toArray) (k := (prs.length : Int)) ?k1W7 ?k2W7 ?k3W7 ?_); (case k1W7 => exact ledger_list kN9 (by k_mem)); (case k2W7 => exact congrArg Int.ofNat (Eq.trans (by simp) hT9.1)); (case k3W7 => (have e9 := hT9.1; omega)))))
  trivial
set_option maxHeartbeats 4000000 in
theorem ptT3 (he : thenSeg 0 3 = some (st, sc))
    (B : Below callerA h₀ [] h₀) (X : (hd.heap_1 w.params).In h₀) (T : Top p loose mean mg mb h₀) (cz : oz.data = .cell (some (.int 3 tz))) (cp : o3.data = .cell (some (.int pt tp))) (cv : o4.data = .cell (some (.ref VL)))
    (hm1 : m (Str.ofString "pairs") = some (.ref P)) (hm2 : m (Str.ofString "due") = some (.int due td)) (hIv : IntsAre vv ns) (hns : ns.length < 100) (hpt : 0 ≤ pt ∧ pt < (ns.length : Int)) (hb : ∀ q ∈ prs, (0 ≤ q.1 ∧ q.1 < (ns.length : Int)) ∧ (0 ≤ q.2 ∧ q.2 < (ns.length : Int))) (h2 : pv.length ≤ 2) (hT : TupsIn rest pv prs)
    (hP : ∀ q ∈ (VL, LCg.lst vv) :: (L + 1 + 1 + 1 + 1, o4) :: (L + 1 + 1 + 1, o3) :: (L + 1, oz) :: rest, @Ne Nat q.1 P)
    (F : Fr h₀ L s.heap m) (N : News h₀ L s.heap ((P, W.listOf pv.toArray kp) :: (VL, LCg.lst vv) :: (L + 1 + 1 + 1 + 1, o4) :: (L + 1 + 1 + 1, o3) :: (L + 1, oz) :: rest))
    (kk : ∀ (t : Tok) (h' : Heap) (tk : Nat) (m' : Str → Option Value), m' (Str.ofString "due") = some (.int (due + (2 * turnsI ns pt prs - 1) * 2 ^ Int.toNat (3 - 1 - (prs.length : Int))) t) → (∀ z, [Str.ofString "turn", Str.ofString "one", Str.ofString "other", Str.ofString "due"].contains z = false → m' z = m z) → Fr h₀ L h' m' →
      News h₀ L h' ((P, W.listOf pv.toArray kp) :: (VL, LCg.lst vv) :: (L + 1 + 1 + 1 + 1, o4) :: (L + 1 + 1 + 1, o3) :: (L + 1, oz) :: rest) → Q .next { s with heap := h', toks := tk }) :
    wpAny (model Challenge.rw_sn0075_01.row.prog w) (callerA.deeper (envOfC (Str.ofString "law") sc L fa cd)) (execs st (envOfC (Str.ofString "law") sc L fa cd)) Q (fun _ _ => False) s := by
  revert X; k_fill; intro X
  have he2 : thenSeg 0 3 = some ([_, _, _], _) := rfl
  rw [he] at he2
  cases he2
  clear he
  rw [known hm1, known hm2] at F
  (iterate 7 (first | (dsimp only; walk1) | walk1))
  (rename Fr _ _ _ _ => kF); (rename News _ _ _ _ => kN)
  with_unfolding_all refine' iter_turnsL (m₀ := ?m0) (fun i m news => (news = (VL, LCg.lst vv) :: (L + 1 + 1 + 1 + 1, o4) :: (L + 1 + 1 + 1, o3) :: (L + 1, oz) :: rest ∧ ∃ t, m (Str.ofString "turn") = some (.int (turnsI ns pt (prs.take i)) t)) ∧ ∀ z, [Str.ofString "turn", Str.ofString "one", Str.ofString "other"].contains z = false → m z = ?m0 z) ?h1 kF kN rfl rfl ?h3 ?h2 ?turn ?done
  case h1 => rfl
  case h3 => exact hP
  case h2 => exact ⟨⟨rfl, _, rfl⟩, fun _ _ => rfl⟩
  case turn =>
    rintro i v m₁ news₁ h tk own hv hadr hoff ⟨⟨rfl, tt, hmt⟩, hs⟩ F1 N1
    obtain ⟨hl9, hT9⟩ := hT
    have hi1 : i < pv.length := (List.getElem?_eq_some_iff.mp hv).1
    have hq : prs[i]? = some prs[i] := List.getElem?_eq_getElem (by omega)
    obtain ⟨TA, ta, tb, rfl, hmem⟩ := hT9 i v _ hv hq
    have htk : prs.take (i + 1) = prs.take i ++ [prs[i]] := List.take_succ_eq_append_getElem (by omega)
    have hbq := hb _ (List.getElem_mem (by omega : i < prs.length))
    generalize prs[i] = q at *
    obtain ⟨a, b⟩ := q
    have ha9 : 0 ≤ a ∧ a < (ns.length : Int) := hbq.1
    have hb9 : 0 ≤ b ∧ b < (ns.length : Int) := hbq.2
    have hTup : IsTup h TA #[.int a ta, .int b tb] := News.isTup N1 (.tail _ (List.mem_append_left _ (.tail _ (.tail _ (.tail _ (.tail _ hmem))))))
    have htn := turns_snoc (ns := ns) (pt := pt) (l := prs.take i) (q := (a, b))
    rw [← htk] at htn
    generalize turnsI ns pt (prs.take (i + 1)) = tn at *
    generalize turnsI ns pt (prs.take i) = t0 at *
    clear hv hq htk hbq hT9 hl9 hmem
    rw [forget0 hs, known hmt] at F1
    clear kF kN hs
    simp only [List.cons_append] at N1
    repeat (first | (dsimp only; walk1) | walk1)
    (rename Fr _ _ _ _ => kF); (rename News _ _ _ _ => kN)
    exact InvEndN.intro kF kN ⟨⟨rfl, _, by rw [htn]; exact rfl⟩, by (k_extra "mine:same")⟩ rfl (fun p hp => List.mem_cons_of_mem _ (List.mem_append_left own hp)) (fun p hp => List.mem_cons_of_mem _ (List.mem_append_right ((VL, LCg.lst vv) :: (L + 1 + 1 + 1 + 1, o4) :: (L + 1 + 1 + 1, o3) :: (L + 1, oz) :: rest) hp))
  case done =>
    rintro m₁ news₁ h tk ⟨⟨rfl, tt, hmt⟩, hs⟩ F1 N1
    rw [hT.1, List.take_of_length_le (Nat.le_refl _)] at hmt
    have hd9 : m₁ (Str.ofString "due") = some (.int due td) := hs _ (by decide)
    have hp9 : m₁ (Str.ofString "pairs") = some (.ref P) := hs _ (by decide)
    have hmz : ∀ z, [Str.ofString "turn", Str.ofString "one", Str.ofString "other", Str.ofString "due"].contains z = false → m₁ z = m z := by
      intro z hz
      have z0 : [Str.ofString "turn", Str.ofString "one", Str.ofString "other"].contains z = false := by
        simp only [List.contains_cons, Bool.or_eq_false_iff] at hz ⊢
        exact ⟨hz.1, hz.2.1, hz.2.2.1, rfl⟩
      have z1 : z ≠ Str.ofString "turn" := by rintro rfl; revert hz; decide
      rw [hs z z0]
      simp only [if_neg z1]
      split
      · rename_i h; subst h; exact hm1.symm
      · split
        · rename_i h; subst h; exact hm2.symm
        · rfl
    rw [known hmt, known hd9, known hp9] at F1
    clear kF kN hs
    have e8 : (0 : Int) ≤ 3 - 1 - (prs.length : Int) ∧ 3 - 1 - (prs.length : Int) ≤ 2 := by have e9 := hT.1; omega
    have e7 := pow_bits (x := 3 - 1 - (prs.length : Int)) (by omega)
    repeat (first | (dsimp only; walk1) | walk1)
    (rename Fr _ _ _ _ => kF); (rename News _ _ _ _ => kN)
    refine kk _ _ _ _ (by exact rfl) (fun z hz => ?_) kF kN
    have z1 : z ≠ Str.ofString "turn" := by rintro rfl; revert hz; decide
    have z4 : z ≠ Str.ofString "due" := by rintro rfl; revert hz; decide
    simp only [if_neg z1, if_neg z4]
    split
    · rename_i h; subst h; exact hm1.symm
    · exact hmz z hz
end
end PartG4
section PartG4b
theorem base_G4b : True := by
  w_top off
  k_with_none
  k_with "mine:step" => ((first | (k_unfold; (try dsimp only)) | (k_end; wrow_close) | walk1 | (dsimp only; walk1) | (leave1; walk_say "STEP leave1"; try dsimp only) | fail "no step"))
  k_with "storeName" => ((k_here; k_dflt (first | (refine' storeI ?FW7 ?NW7 ?_ ?aW7 ?bW7; (case FW7 => k_asm); (case NW7 => k_asm); (case aW7 => rfl); (case bW7 => rfl); k_whole; intro hq9 tq9 tkq9 Fq9 Nq9; (try k_sweep)) | (refine' storeU ?FW7 ?NW7 ?_ ?aW7 ?bW7; (case FW7 => k_asm); (case NW7 => k_asm); (case aW7 => rfl); (case bW7 => rfl); k_whole; intro hq9 tkq9 Fq9 Nq9; (try k_sweep)))))
  k_with "mine:pj" => (((rename (_ ∧ _) => z); first | exact z.1 | exact Zs z.1 | exact Zl z.1 | exact Zg z.1 | exact z.2 | exact Zs z.2 | exact Zl z.2 | exact Zg z.2 | exact z.2.1 | exact Zs z.2.1 | exact Zl z.2.1 | exact Zg z.2.1 | exact z.2.2 | exact Zs z.2.2 | exact Zl z.2.2 | exact Zg z.2.2 | exact z.2.2.1 | exact Zs z.2.2.1 | exact Zl z.2.2.1 | exact Zg z.2.2.1 | exact z.2.2.2 | exact Zs z.2.2.2 | exact Zl z.2.2.2 | exact Zg z.2.2.2 | exact z.2.2.2.1 | exact Zs z.2.2.2.1 | exact Zl z.2.2.2.1 | exact Zg z.2.2.2.1 | exact z.2.2.2.2 | exact Zs z.2.2.2.2 | exact Zl z.2.2.2.2 | exact Zg z.2.2.2.2 | exact z.2.2.2.2.1 | exact Zs z.2.2.2.2.1 | exact Zl z.2.2.2.2.1 | exact Zg z.2.2.2.2.1 | exact z.2.2.2.2.2 | exact Zs z.2.2.2.2.2 | exact Zl z.2.2.2.2.2 | exact Zg z.2.2.2.2.2 | exact z.2.2.2.2.2.1 | exact Zs z.2.2.2.2.2.1 | exact Zl z.2.2.2.2.2.1 | exact Zg z.2.2.2.2.2.1 | exact z.2.2.2.2.2.2 | exact Zs z.2.2.2.2.2.2 | exact Zl z.2.2.2.2.2.2 | exact Zg z.2.2.2.2.2.2 | exact z.2.2.2.2.2.2.1 | exact Zs z.2.2.2.2.2.2.1 | exact Zl z.2.2.2.2.2.2.1 | exact Zg z.2.2.2.2.2.2.1 | exact z.2.2.2.2.2.2.2 | exact Zs z.2.2.2.2.2.2.2 | exact Zl z.2.2.2.2.2.2.2 | exact Zg z.2.2.2.2.2.2.2 | exact z.2.2.2.2.2.2.2.1 | exact Zs z.2.2.2.2.2.2.2.1 | exact Zl z.2.2.2.2.2.2.2.1 | exact Zg z.2.2.2.2.2.2.2.1 | exact z.2.2.2.2.2.2.2.2 | exact Zs z.2.2.2.2.2.2.2.2 | exact Zl z.2.2.2.2.2.2.2.2 | exact Zg z.2.2.2.2.2.2.2.2 | exact z.2.2.2.2.2.2.2.2.1 | exact Zs z.2.2.2.2.2.2.2.2.1 | exact Zl z.2.2.2.2.2.2.2.2.1 | exact Zg z.2.2.2.2.2.2.2.2.1 | exact z.2.2.2.2.2.2.2.2.2.1 | exact Zs z.2.2.2.2.2.2.2.2.2.1 | exact Zl z.2.2.2.2.2.2.2.2.2.1 | exact Zg z.2.2.2.2.2.2.2.2.2.1 | exact z.2.2.2.2.2.2.2.2.2.2.1 | exact Zs z.2.2.2.2.2.2.2.2.2.2.1 | exact Zl z.2.2.2.2.2.2.2.2.2.2.1 | exact Zg z.2.2.2.2.2.2.2.2.2.2.1 | exact z.2.2.2.2.2.2.2.2.2.2.2.1 | exact Zs z.2.2.2.2.2.2.2.2.2.2.2.1 | exact Zl z.2.2.2.2.2.2.2.2.2.2.2.1 | exact Zg z.2.2.2.2.2.2.2.2.2.2.2.1 | exact z.2.2.2.2.2.2.2.2.2.2.2.2.1 | exact Zs z.2.2.2.2.2.2.2.2.2.2.2.2.1 | exact Zl z.2.2.2.2.2.2.2.2.2.2.2.2.1 | exact Zg z.2.2.2.2.2.2.2.2.2.2.2.2.1 | exact z.2.2.2.2.2.2.2.2.2.2.2.2.2.1 | exact Zs z.2.2.2.2.2.2.2.2.2.2.2.2.2.1 | exact Zl z.2.2.2.2.2.2.2.2.2.2.2.2.2.1 | exact Zg z.2.2.2.2.2.2.2.2.2.2.2.2.2.1 | (clear z; (k_extra "mine:pj"))))
  k_with "mine:ne" => (first | (with_reducible assumption) | exact Ne.symm (by with_reducible assumption) | exact ne_lt (by with_reducible assumption) | exact ne_gt (by with_reducible assumption) | exact ne_lt (lt_led (by with_reducible assumption) (by k_mem)) | exact ne_gt (lt_led (by with_reducible assumption) (by k_mem)) | ((try dsimp only); with_reducible (k_extra "mine:pj")) | assumption | exact Nat.ne_of_lt (Nat.lt_succ_self _) | exact Nat.ne_of_gt (Nat.lt_succ_self _) | (walk_say "K_NE OMEGA"; refine neN ?_; (try dsimp only); omega))
  k_with "mine:nes" => (first | (refine And.intro ?_ ?_ <;> (k_extra "mine:nes")) | k_ne)
  k_with "mine:in" => (first | (with_reducible exact List.mem_cons_self) | (with_reducible assumption) | ((with_reducible refine List.mem_cons_of_mem _ ?_); (k_extra "mine:in")) | exact List.mem_cons_self | (refine List.mem_cons_of_mem _ ?_; (k_extra "mine:in")) | (refine List.mem_append_left _ ?_; (k_extra "mine:in")) | (refine List.mem_append_right _ ?_; (k_extra "mine:in")))
  k_with "mine:sub" => (first | (with_reducible exact sub_id) | (with_reducible exact sub_nil) | ((with_reducible refine sub_cons ?haW7 ?hbW7); (case haW7 => (k_extra "mine:in")); (case hbW7 => (k_extra "mine:sub"))) | ((with_reducible refine sub_both ?haW7 ?hbW7); (case haW7 => (k_extra "mine:sub")); (case hbW7 => (k_extra "mine:sub"))) | ((with_reducible refine sub_skip ?_); (k_extra "mine:sub")) | ((with_reducible refine sub_right ?_); (k_extra "mine:sub")) | ((with_reducible refine sub_left ?_); (k_extra "mine:sub")) | (simp only [List.nil_append, List.cons_append]; (k_extra "mine:sub")))
  k_with "mine:keys" => (first | (k_dflt (exact keys_of rfl rfl)) | (walk_say "K_KEYS LONG"; repeat (first | exact True.intro | refine And.intro ⟨_, _, rfl, rfl⟩ ?_)))
  k_with "mine:enter0" => ((refine' enter0 ?k1W7 ?k2W7 ?k3W7 ?k4W7 ?kKW7 ?k8W7 ?k6W7 ?k7W7 ?k9W7 ?kBW7 ?_ ?c2W7 ?c3W7 ?c4W7 ?c5W7; (case kKW7 => assumption); (case k1W7 => k_asm); (case k2W7 => k_asm); (case k3W7 => k_asm); (case k4W7 => k_asm); (case k6W7 => k_is); (case k7W7 => k_is); (case k8W7 => ktr_room); (case k9W7 => exact BindsTo.of_eq rfl); (case c5W7 => decide); (case kBW7 => exact locs rfl); (case c2W7 => exact rfl); (case c3W7 => exact rfl); (case c4W7 => exact rfl); k_whole; intro Lq9 hq9 tkq9 Fq9 Nq9 Bq9 Xq9 Tq9; (try dsimp only); (try k_fold)))
  k_with "mine:ret" => (((all_goals (try dsimp only)); (all_goals (try k_unfold)); (all_goals (try dsimp only))))
  k_with "mine:same" => (first | exact fun _ _ => rfl | exact fun _ _ _ => rfl | exact same_fg | exact same_fgN | (refine same_upY ?_; (k_extra "mine:same")) | (refine same_up (by rfl) ?_; (k_extra "mine:same")) | (refine same_upN (by rfl) ?_; (k_extra "mine:same")) | (intros; (try dsimp only [forget, up]); (repeat' split); all_goals first | rfl | (exfalso; subst_vars; (rename (List.contains _ _ = false) => hz9); (revert hz9); decide) | (exfalso; (rename (List.contains _ _ = false) => hz9); (rename (List.contains _ _ = true) => hz8); rw [hz9] at hz8; exact Bool.noConfusion hz8) | (exfalso; subst_vars; contradiction)))
  trivial
open PySem PySem.W PySem.Calls PySem.Spec PyProof.Rows
section
variable {w : World} {s : Shared} {h₀ : Heap} {L fa P VL : Addr} {m mg mb : Str → Option Value} {p : Program} {loose : List Str} {mean : ExcName → Option Value} {cd : Value} {o3 o4 oz : Obj}
    {st : List Stmt} {sc : Scope} {Q : Flow → Shared → Prop} {tz td tp : Tok} {vv pv : List Value} {ns : List Int} {prs : List (Int × Int)} {kp : Nat} {pt due : Int} {rest : List (Addr × Obj)}
theorem words_G4b_1 : True := by
  k_with "exec For Tuple Name cons nil" => ((k_here; (rename Fr _ _ _ _ => lFq9); (with_unfolding_all refine' For_turns lFq9 ?_); k_whole))
  k_with "call ref" => ((k_here; k_dflt ( (show wpAny _ _ (call (Value.ref 155) _) _ _ _); (rename News _ _ _ _ => kN9); (rename IntsAre vv ns => hI9); (rename List.length ns < 100 => hn9); (rename (0 ≤ pt ∧ _) => hp9); (refine' use_spec ?FW7 ?NW7 (spec_told (vs := vv) (ns := ns) ?BW7 ?F1W7 ?XW7 ?TW7 ?hkW7 ?dW7 ?uW7 ?hlW7 hI9 hn9 hp9 ?hyW7) ?_); (case FW7 => k_asm); (case NW7 => k_asm); (case BW7 => k_asm); (case F1W7 => k_asm); (case XW7 => k_asm); (case TW7 => k_asm); (case hkW7 => rfl); (case dW7 => ktr_room); (case uW7 => ktr_units); (case hlW7 => exact ledger_lst kN9 (by k_mem)); (case hyW7 => assumption); (intro vq9 hq9 tkq9 Fq9 Nq9 Eq9 qq9; (obtain ⟨tv, qq9⟩ := qq9); subst qq9); (try k_sweep))))
  k_with "call builtin:len" => ((k_here; (with_reducible show wpAny _ _ (call (Value.builtin "len") [Value.ref _]) _ _ _); k_dflt ((rename TupsIn rest pv prs => hT9); (rename (@LE.le Nat _ (List.length pv) 2) => h29); (rename News _ _ _ _ => kN9); (refine' kun_lenL (items := pv.toArray) (k := (prs.length : Int)) ?k1W7 ?k2W7 ?k3W7 ?_); (case k1W7 => exact ledger_list kN9 (by k_mem)); (case k2W7 => exact congrArg Int.ofNat (Eq.trans (by simp) hT9.1)); (case k3W7 => (have e9 := hT9.1; omega)))))
  trivial
set_option maxHeartbeats 4000000 in
theorem ptT4 (he : thenSeg 0 3 = some (st, sc))
    (B : Below callerA h₀ [] h₀) (X : (hd.heap_1 w.params).In h₀) (T : Top p loose mean mg mb h₀) (cz : oz.data = .cell (some (.int 4 tz))) (cp : o3.data = .cell (some (.int pt tp))) (cv : o4.data = .cell (some (.ref VL)))
    (hm1 : m (Str.ofString "pairs") = some (.ref P)) (hm2 : m (Str.ofString "due") = some (.int due td)) (hIv : IntsAre vv ns) (hns : ns.length < 100) (hpt : 0 ≤ pt ∧ pt < (ns.length : Int)) (hb : ∀ q ∈ prs, (0 ≤ q.1 ∧ q.1 < (ns.length : Int)) ∧ (0 ≤ q.2 ∧ q.2 < (ns.length : Int))) (h2 : pv.length ≤ 2) (hT : TupsIn rest pv prs)
    (hP : ∀ q ∈ (VL, LCg.lst vv) :: (L + 1 + 1 + 1 + 1, o4) :: (L + 1 + 1 + 1, o3) :: (L + 1, oz) :: rest, @Ne Nat q.1 P)
    (F : Fr h₀ L s.heap m) (N : News h₀ L s.heap ((P, W.listOf pv.toArray kp) :: (VL, LCg.lst vv) :: (L + 1 + 1 + 1 + 1, o4) :: (L + 1 + 1 + 1, o3) :: (L + 1, oz) :: rest))
    (kk : ∀ (t : Tok) (h' : Heap) (tk : Nat) (m' : Str → Option Value), m' (Str.ofString "due") = some (.int (due + (2 * turnsI ns pt prs - 1) * 2 ^ Int.toNat (4 - 1 - (prs.length : Int))) t) → (∀ z, [Str.ofString "turn", Str.ofString "one", Str.ofString "other", Str.ofString "due"].contains z = false → m' z = m z) → Fr h₀ L h' m' →
      News h₀ L h' ((P, W.listOf pv.toArray kp) :: (VL, LCg.lst vv) :: (L + 1 + 1 + 1 + 1, o4) :: (L + 1 + 1 + 1, o3) :: (L + 1, oz) :: rest) → Q .next { s with heap := h', toks := tk }) :
    wpAny (model Challenge.rw_sn0075_01.row.prog w) (callerA.deeper (envOfC (Str.ofString "law") sc L fa cd)) (execs st (envOfC (Str.ofString "law") sc L fa cd)) Q (fun _ _ => False) s := by
  revert X; k_fill; intro X
  have he2 : thenSeg 0 3 = some ([_, _, _], _) := rfl
  rw [he] at he2
  cases he2
  clear he
  rw [known hm1, known hm2] at F
  (iterate 7 (first | (dsimp only; walk1) | walk1))
  (rename Fr _ _ _ _ => kF); (rename News _ _ _ _ => kN)
  with_unfolding_all refine' iter_turnsL (m₀ := ?m0) (fun i m news => (news = (VL, LCg.lst vv) :: (L + 1 + 1 + 1 + 1, o4) :: (L + 1 + 1 + 1, o3) :: (L + 1, oz) :: rest ∧ ∃ t, m (Str.ofString "turn") = some (.int (turnsI ns pt (prs.take i)) t)) ∧ ∀ z, [Str.ofString "turn", Str.ofString "one", Str.ofString "other"].contains z = false → m z = ?m0 z) ?h1 kF kN rfl rfl ?h3 ?h2 ?turn ?done
  case h1 => rfl
  case h3 => exact hP
  case h2 => exact ⟨⟨rfl, _, rfl⟩, fun _ _ => rfl⟩
  case turn =>
    rintro i v m₁ news₁ h tk own hv hadr hoff ⟨⟨rfl, tt, hmt⟩, hs⟩ F1 N1
    obtain ⟨hl9, hT9⟩ := hT
    have hi1 : i < pv.length := (List.getElem?_eq_some_iff.mp hv).1
    have hq : prs[i]? = some prs[i] := List.getElem?_eq_getElem (by omega)
    obtain ⟨TA, ta, tb, rfl, hmem⟩ := hT9 i v _ hv hq
    have htk : prs.take (i + 1) = prs.take i ++ [prs[i]] := List.take_succ_eq_append_getElem (by omega)
    have hbq := hb _ (List.getElem_mem (by omega : i < prs.length))
    generalize prs[i] = q at *
    obtain ⟨a, b⟩ := q
    have ha9 : 0 ≤ a ∧ a < (ns.length : Int) := hbq.1
    have hb9 : 0 ≤ b ∧ b < (ns.length : Int) := hbq.2
    have hTup : IsTup h TA #[.int a ta, .int b tb] := News.isTup N1 (.tail _ (List.mem_append_left _ (.tail _ (.tail _ (.tail _ (.tail _ hmem))))))
    have htn := turns_snoc (ns := ns) (pt := pt) (l := prs.take i) (q := (a, b))
    rw [← htk] at htn
    generalize turnsI ns pt (prs.take (i + 1)) = tn at *
    generalize turnsI ns pt (prs.take i) = t0 at *
    clear hv hq htk hbq hT9 hl9 hmem
    rw [forget0 hs, known hmt] at F1
    clear kF kN hs
    simp only [List.cons_append] at N1
    repeat (first | (dsimp only; walk1) | walk1)
    (rename Fr _ _ _ _ => kF); (rename News _ _ _ _ => kN)
    exact InvEndN.intro kF kN ⟨⟨rfl, _, by rw [htn]; exact rfl⟩, by (k_extra "mine:same")⟩ rfl (fun p hp => List.mem_cons_of_mem _ (List.mem_append_left own hp)) (fun p hp => List.mem_cons_of_mem _ (List.mem_append_right ((VL, LCg.lst vv) :: (L + 1 + 1 + 1 + 1, o4) :: (L + 1 + 1 + 1, o3) :: (L + 1, oz) :: rest) hp))
  case done =>
    rintro m₁ news₁ h tk ⟨⟨rfl, tt, hmt⟩, hs⟩ F1 N1
    rw [hT.1, List.take_of_length_le (Nat.le_refl _)] at hmt
    have hd9 : m₁ (Str.ofString "due") = some (.int due td) := hs _ (by decide)
    have hp9 : m₁ (Str.ofString "pairs") = some (.ref P) := hs _ (by decide)
    have hmz : ∀ z, [Str.ofString "turn", Str.ofString "one", Str.ofString "other", Str.ofString "due"].contains z = false → m₁ z = m z := by
      intro z hz
      have z0 : [Str.ofString "turn", Str.ofString "one", Str.ofString "other"].contains z = false := by
        simp only [List.contains_cons, Bool.or_eq_false_iff] at hz ⊢
        exact ⟨hz.1, hz.2.1, hz.2.2.1, rfl⟩
      have z1 : z ≠ Str.ofString "turn" := by rintro rfl; revert hz; decide
      rw [hs z z0]
      simp only [if_neg z1]
      split
      · rename_i h; subst h; exact hm1.symm
      · split
        · rename_i h; subst h; exact hm2.symm
        · rfl
    rw [known hmt, known hd9, known hp9] at F1
    clear kF kN hs
    have e8 : (0 : Int) ≤ 4 - 1 - (prs.length : Int) ∧ 4 - 1 - (prs.length : Int) ≤ 3 := by have e9 := hT.1; omega
    have e7 := pow_bits (x := 4 - 1 - (prs.length : Int)) (by omega)
    repeat (first | (dsimp only; walk1) | walk1)
    (rename Fr _ _ _ _ => kF); (rename News _ _ _ _ => kN)
    refine kk _ _ _ _ (by exact rfl) (fun z hz => ?_) kF kN
    have z1 : z ≠ Str.ofString "turn" := by rintro rfl; revert hz; decide
    have z4 : z ≠ Str.ofString "due" := by rintro rfl; revert hz; decide
    simp only [if_neg z1, if_neg z4]
    split
    · rename_i h; subst h; exact hm1.symm
    · exact hmz z hz
end
end PartG4b
section PartG5
theorem base_G5 : True := by
  w_top off
  k_with_none
  k_with "mine:step" => ((first | (k_unfold; (try dsimp only)) | (k_end; wrow_close) | walk1 | (dsimp only; walk1) | (leave1; walk_say "STEP leave1"; try dsimp only) | fail "no step"))
  k_with "storeName" => ((k_here; k_dflt (first | (refine' storeI ?FW7 ?NW7 ?_ ?aW7 ?bW7; (case FW7 => k_asm); (case NW7 => k_asm); (case aW7 => rfl); (case bW7 => rfl); k_whole; intro hq9 tq9 tkq9 Fq9 Nq9; (try k_sweep)) | (refine' storeU ?FW7 ?NW7 ?_ ?aW7 ?bW7; (case FW7 => k_asm); (case NW7 => k_asm); (case aW7 => rfl); (case bW7 => rfl); k_whole; intro hq9 tkq9 Fq9 Nq9; (try k_sweep)))))
  k_with "mine:pj" => (((rename (_ ∧ _) => z); first | exact z.1 | exact Zs z.1 | exact Zl z.1 | exact Zg z.1 | exact z.2 | exact Zs z.2 | exact Zl z.2 | exact Zg z.2 | exact z.2.1 | exact Zs z.2.1 | exact Zl z.2.1 | exact Zg z.2.1 | exact z.2.2 | exact Zs z.2.2 | exact Zl z.2.2 | exact Zg z.2.2 | exact z.2.2.1 | exact Zs z.2.2.1 | exact Zl z.2.2.1 | exact Zg z.2.2.1 | exact z.2.2.2 | exact Zs z.2.2.2 | exact Zl z.2.2.2 | exact Zg z.2.2.2 | exact z.2.2.2.1 | exact Zs z.2.2.2.1 | exact Zl z.2.2.2.1 | exact Zg z.2.2.2.1 | exact z.2.2.2.2 | exact Zs z.2.2.2.2 | exact Zl z.2.2.2.2 | exact Zg z.2.2.2.2 | exact z.2.2.2.2.1 | exact Zs z.2.2.2.2.1 | exact Zl z.2.2.2.2.1 | exact Zg z.2.2.2.2.1 | exact z.2.2.2.2.2 | exact Zs z.2.2.2.2.2 | exact Zl z.2.2.2.2.2 | exact Zg z.2.2.2.2.2 | exact z.2.2.2.2.2.1 | exact Zs z.2.2.2.2.2.1 | exact Zl z.2.2.2.2.2.1 | exact Zg z.2.2.2.2.2.1 | exact z.2.2.2.2.2.2 | exact Zs z.2.2.2.2.2.2 | exact Zl z.2.2.2.2.2.2 | exact Zg z.2.2.2.2.2.2 | exact z.2.2.2.2.2.2.1 | exact Zs z.2.2.2.2.2.2.1 | exact Zl z.2.2.2.2.2.2.1 | exact Zg z.2.2.2.2.2.2.1 | exact z.2.2.2.2.2.2.2 | exact Zs z.2.2.2.2.2.2.2 | exact Zl z.2.2.2.2.2.2.2 | exact Zg z.2.2.2.2.2.2.2 | exact z.2.2.2.2.2.2.2.1 | exact Zs z.2.2.2.2.2.2.2.1 | exact Zl z.2.2.2.2.2.2.2.1 | exact Zg z.2.2.2.2.2.2.2.1 | exact z.2.2.2.2.2.2.2.2 | exact Zs z.2.2.2.2.2.2.2.2 | exact Zl z.2.2.2.2.2.2.2.2 | exact Zg z.2.2.2.2.2.2.2.2 | exact z.2.2.2.2.2.2.2.2.1 | exact Zs z.2.2.2.2.2.2.2.2.1 | exact Zl z.2.2.2.2.2.2.2.2.1 | exact Zg z.2.2.2.2.2.2.2.2.1 | exact z.2.2.2.2.2.2.2.2.2.1 | exact Zs z.2.2.2.2.2.2.2.2.2.1 | exact Zl z.2.2.2.2.2.2.2.2.2.1 | exact Zg z.2.2.2.2.2.2.2.2.2.1 | exact z.2.2.2.2.2.2.2.2.2.2.1 | exact Zs z.2.2.2.2.2.2.2.2.2.2.1 | exact Zl z.2.2.2.2.2.2.2.2.2.2.1 | exact Zg z.2.2.2.2.2.2.2.2.2.2.1 | exact z.2.2.2.2.2.2.2.2.2.2.2.1 | exact Zs z.2.2.2.2.2.2.2.2.2.2.2.1 | exact Zl z.2.2.2.2.2.2.2.2.2.2.2.1 | exact Zg z.2.2.2.2.2.2.2.2.2.2.2.1 | exact z.2.2.2.2.2.2.2.2.2.2.2.2.1 | exact Zs z.2.2.2.2.2.2.2.2.2.2.2.2.1 | exact Zl z.2.2.2.2.2.2.2.2.2.2.2.2.1 | exact Zg z.2.2.2.2.2.2.2.2.2.2.2.2.1 | exact z.2.2.2.2.2.2.2.2.2.2.2.2.2.1 | exact Zs z.2.2.2.2.2.2.2.2.2.2.2.2.2.1 | exact Zl z.2.2.2.2.2.2.2.2.2.2.2.2.2.1 | exact Zg z.2.2.2.2.2.2.2.2.2.2.2.2.2.1 | (clear z; (k_extra "mine:pj"))))
  k_with "mine:ne" => (first | (with_reducible assumption) | exact Ne.symm (by with_reducible assumption) | exact ne_lt (by with_reducible assumption) | exact ne_gt (by with_reducible assumption) | exact ne_lt (lt_led (by with_reducible assumption) (by k_mem)) | exact ne_gt (lt_led (by with_reducible assumption) (by k_mem)) | ((try dsimp only); with_reducible (k_extra "mine:pj")) | assumption | exact Nat.ne_of_lt (Nat.lt_succ_self _) | exact Nat.ne_of_gt (Nat.lt_succ_self _) | (walk_say "K_NE OMEGA"; refine neN ?_; (try dsimp only); omega))
  k_with "mine:nes" => (first | (refine And.intro ?_ ?_ <;> (k_extra "mine:nes")) | k_ne)
  k_with "mine:in" => (first | (with_reducible exact List.mem_cons_self) | (with_reducible assumption) | ((with_reducible refine List.mem_cons_of_mem _ ?_); (k_extra "mine:in")) | exact List.mem_cons_self | (refine List.mem_cons_of_mem _ ?_; (k_extra "mine:in")) | (refine List.mem_append_left _ ?_; (k_extra "mine:in")) | (refine List.mem_append_right _ ?_; (k_extra "mine:in")))
  k_with "mine:sub" => (first | (with_reducible exact sub_id) | (with_reducible exact sub_nil) | ((with_reducible refine sub_cons ?haW7 ?hbW7); (case haW7 => (k_extra "mine:in")); (case hbW7 => (k_extra "mine:sub"))) | ((with_reducible refine sub_both ?haW7 ?hbW7); (case haW7 => (k_extra "mine:sub")); (case hbW7 => (k_extra "mine:sub"))) | ((with_reducible refine sub_skip ?_); (k_extra "mine:sub")) | ((with_reducible refine sub_right ?_); (k_extra "mine:sub")) | ((with_reducible refine sub_left ?_); (k_extra "mine:sub")) | (simp only [List.nil_append, List.cons_append]; (k_extra "mine:sub")))
  k_with "mine:keys" => (first | (k_dflt (exact keys_of rfl rfl)) | (walk_say "K_KEYS LONG"; repeat (first | exact True.intro | refine And.intro ⟨_, _, rfl, rfl⟩ ?_)))
  k_with "mine:enter0" => ((refine' enter0 ?k1W7 ?k2W7 ?k3W7 ?k4W7 ?kKW7 ?k8W7 ?k6W7 ?k7W7 ?k9W7 ?kBW7 ?_ ?c2W7 ?c3W7 ?c4W7 ?c5W7; (case kKW7 => assumption); (case k1W7 => k_asm); (case k2W7 => k_asm); (case k3W7 => k_asm); (case k4W7 => k_asm); (case k6W7 => k_is); (case k7W7 => k_is); (case k8W7 => ktr_room); (case k9W7 => exact BindsTo.of_eq rfl); (case c5W7 => decide); (case kBW7 => exact locs rfl); (case c2W7 => exact rfl); (case c3W7 => exact rfl); (case c4W7 => exact rfl); k_whole; intro Lq9 hq9 tkq9 Fq9 Nq9 Bq9 Xq9 Tq9; (try dsimp only); (try k_fold)))
  k_with "mine:ret" => (((all_goals (try dsimp only)); (all_goals (try k_unfold)); (all_goals (try dsimp only))))
  k_with "mine:same" => (first | exact fun _ _ => rfl | exact fun _ _ _ => rfl | exact same_fg | exact same_fgN | (refine same_upY ?_; (k_extra "mine:same")) | (refine same_up (by rfl) ?_; (k_extra "mine:same")) | (refine same_upN (by rfl) ?_; (k_extra "mine:same")) | (intros; (try dsimp only [forget, up]); (repeat' split); all_goals first | rfl | (exfalso; subst_vars; (rename (List.contains _ _ = false) => hz9); (revert hz9); decide) | (exfalso; (rename (List.contains _ _ = false) => hz9); (rename (List.contains _ _ = true) => hz8); rw [hz9] at hz8; exact Bool.noConfusion hz8) | (exfalso; subst_vars; contradiction)))
  trivial
open PySem PySem.W PySem.Calls PySem.Spec PyProof.Rows
section
variable {w : World} {s : Shared} {h₀ : Heap} {L fa LN : Addr} {m mg mb : Str → Option Value} {p : Program} {loose : List Str} {mean : ExcName → Option Value} {cd : Value}
    {st : List Stmt} {sc : Scope} {Q : Flow → Shared → Prop} {td tp : Tok} {lv : List Value} {ls : List Int} {kl : Nat} {x : Int} {rest : List (Addr × Obj)}
theorem words_G5_1 : True := by
  k_with "call ref" => ((k_here; k_dflt ( (show wpAny _ _ (call (Value.ref 73) _) _ _ _); (rename News _ _ _ _ => kN9); (rename IntsAre lv ls => hI9); (rename List.length ls < 100 => hn9); (rename Srt ls => hs9); (rename (∀ q, q ∈ rest → _) => hr9); (have kN8 : News _ _ _ [(LN, W.listOf lv.toArray kl)] := (fun q hq => kN9 q (List.mem_cons.mpr (.inl (List.mem_singleton.mp hq))))); (refine' use_specX (X := [LN]) (rest := rest) ?FW7 kN9 ?hXW7 ?hrW7 (spec_insort (vs := lv) (ns := ls) (k := kl) ?BW7 ?F1W7 ?XW7 ?TW7 ?hkW7 ?dW7 kN8 hI9 hn9 hs9) ?_); (case FW7 => k_asm); (case hXW7 => exact (fun a ha => by rw [List.mem_singleton.mp ha]; exact ⟨(kN9 _ (.head _)).2.1, (kN9 _ (.head _)).2.2⟩)); (case hrW7 => exact (fun q hq => ⟨.tail _ hq, fun h => hr9 q hq (List.mem_singleton.mp h)⟩)); (case BW7 => k_asm); (case F1W7 => k_asm); (case XW7 => k_asm); (case TW7 => k_asm); (case hkW7 => rfl); (case dW7 => ktr_room); (intro vq9 hq9 tkq9 Fq9 Nq9 Eq9 qq9; (obtain ⟨q1q9, vsq9, kq9, q2q9, q3q9⟩ := qq9); subst q1q9; (replace Nq9 := news_cons Nq9 q2q9 (kN9 _ (.head _)).2.1 (kN9 _ (.head _)).2.2); clear kN8 Eq9 q2q9); (try k_sweep))))
  trivial
set_option maxHeartbeats 4000000 in
theorem ptC (he : ptSeg 4 2 = some (st, sc))
    (B : Below callerA h₀ [] h₀) (X : (hd.heap_1 w.params).In h₀) (T : Top p loose mean mg mb h₀)
    (hm1 : m (Str.ofString "price") = some (.int x tp)) (hm2 : m (Str.ofString "due") = some (.int x td)) (hm3 : m (Str.ofString "line") = some (.ref LN)) (hIl : IntsAre lv ls) (hls : ls.length < 100) (hsr : Srt ls) (hne : ∀ q ∈ rest, @Ne Nat q.1 LN)
    (F : Fr h₀ L s.heap m) (N : News h₀ L s.heap ((LN, W.listOf lv.toArray kl) :: rest))
    (kk : ∀ (lv' : List Value) (k' : Nat) (h' : Heap) (tk : Nat), IntsAre lv' (insI ls x) → Fr h₀ L h' m → News h₀ L h' ((LN, W.listOf lv'.toArray k') :: rest) → Q .next { s with heap := h', toks := tk }) :
    wpAny (model Challenge.rw_sn0075_01.row.prog w) (callerA.deeper (envOfC (Str.ofString "law") sc L fa cd)) (execs st (envOfC (Str.ofString "law") sc L fa cd)) Q (fun _ _ => False) s := by
  revert X; k_fill; intro X
  have he2 : ptSeg 4 2 = some ([_, _], _) := rfl
  rw [he] at he2
  cases he2
  clear he
  have hml1 := known hm1
  have hml2 := known hm2
  have hml3 := known hm3
  have hml : m = fun z => if z = Str.ofString "price" then some (.int x tp) else if z = Str.ofString "due" then some (.int x td) else if z = Str.ofString "line" then some (.ref LN) else m z := by
    funext z
    split
    · rename_i h; subst h; exact hm1
    · split
      · rename_i h; subst h; exact hm2
      · split
        · rename_i h; subst h; exact hm3
        · rfl
  rw [hml] at F
  clear hml1 hml2 hml3
  repeat (first | (dsimp only; walk1) | walk1)
  all_goals first
    | ((rename (x ≠ x) => hxx); exact absurd rfl hxx)
    | (repeat (first | (dsimp only; walk1) | walk1)
       (rename Fr _ _ _ _ => kF); (rename News _ _ _ _ => kN); (rename IntsAre _ (insI _ _) => kI)
       rw [← hml] at kF
       exact kk _ _ _ _ kI kF kN)
end
end PartG5
section PartG6
theorem base_G6 : True := by
  w_top off
  k_with_none
  k_with "mine:step" => ((first | (k_unfold; (try dsimp only)) | (k_end; wrow_close) | walk1 | (dsimp only; walk1) | (leave1; walk_say "STEP leave1"; try dsimp only) | fail "no step"))
  k_with "storeName" => ((k_here; k_dflt (first | (refine' storeI ?FW7 ?NW7 ?_ ?aW7 ?bW7; (case FW7 => k_asm); (case NW7 => k_asm); (case aW7 => rfl); (case bW7 => rfl); k_whole; intro hq9 tq9 tkq9 Fq9 Nq9; (try k_sweep)) | (refine' storeU ?FW7 ?NW7 ?_ ?aW7 ?bW7; (case FW7 => k_asm); (case NW7 => k_asm); (case aW7 => rfl); (case bW7 => rfl); k_whole; intro hq9 tkq9 Fq9 Nq9; (try k_sweep)))))
  k_with "mine:pj" => (((rename (_ ∧ _) => z); first | exact z.1 | exact Zs z.1 | exact Zl z.1 | exact Zg z.1 | exact z.2 | exact Zs z.2 | exact Zl z.2 | exact Zg z.2 | exact z.2.1 | exact Zs z.2.1 | exact Zl z.2.1 | exact Zg z.2.1 | exact z.2.2 | exact Zs z.2.2 | exact Zl z.2.2 | exact Zg z.2.2 | exact z.2.2.1 | exact Zs z.2.2.1 | exact Zl z.2.2.1 | exact Zg z.2.2.1 | exact z.2.2.2 | exact Zs z.2.2.2 | exact Zl z.2.2.2 | exact Zg z.2.2.2 | exact z.2.2.2.1 | exact Zs z.2.2.2.1 | exact Zl z.2.2.2.1 | exact Zg z.2.2.2.1 | exact z.2.2.2.2 | exact Zs z.2.2.2.2 | exact Zl z.2.2.2.2 | exact Zg z.2.2.2.2 | exact z.2.2.2.2.1 | exact Zs z.2.2.2.2.1 | exact Zl z.2.2.2.2.1 | exact Zg z.2.2.2.2.1 | exact z.2.2.2.2.2 | exact Zs z.2.2.2.2.2 | exact Zl z.2.2.2.2.2 | exact Zg z.2.2.2.2.2 | exact z.2.2.2.2.2.1 | exact Zs z.2.2.2.2.2.1 | exact Zl z.2.2.2.2.2.1 | exact Zg z.2.2.2.2.2.1 | exact z.2.2.2.2.2.2 | exact Zs z.2.2.2.2.2.2 | exact Zl z.2.2.2.2.2.2 | exact Zg z.2.2.2.2.2.2 | exact z.2.2.2.2.2.2.1 | exact Zs z.2.2.2.2.2.2.1 | exact Zl z.2.2.2.2.2.2.1 | exact Zg z.2.2.2.2.2.2.1 | exact z.2.2.2.2.2.2.2 | exact Zs z.2.2.2.2.2.2.2 | exact Zl z.2.2.2.2.2.2.2 | exact Zg z.2.2.2.2.2.2.2 | exact z.2.2.2.2.2.2.2.1 | exact Zs z.2.2.2.2.2.2.2.1 | exact Zl z.2.2.2.2.2.2.2.1 | exact Zg z.2.2.2.2.2.2.2.1 | exact z.2.2.2.2.2.2.2.2 | exact Zs z.2.2.2.2.2.2.2.2 | exact Zl z.2.2.2.2.2.2.2.2 | exact Zg z.2.2.2.2.2.2.2.2 | exact z.2.2.2.2.2.2.2.2.1 | exact Zs z.2.2.2.2.2.2.2.2.1 | exact Zl z.2.2.2.2.2.2.2.2.1 | exact Zg z.2.2.2.2.2.2.2.2.1 | exact z.2.2.2.2.2.2.2.2.2.1 | exact Zs z.2.2.2.2.2.2.2.2.2.1 | exact Zl z.2.2.2.2.2.2.2.2.2.1 | exact Zg z.2.2.2.2.2.2.2.2.2.1 | exact z.2.2.2.2.2.2.2.2.2.2.1 | exact Zs z.2.2.2.2.2.2.2.2.2.2.1 | exact Zl z.2.2.2.2.2.2.2.2.2.2.1 | exact Zg z.2.2.2.2.2.2.2.2.2.2.1 | exact z.2.2.2.2.2.2.2.2.2.2.2.1 | exact Zs z.2.2.2.2.2.2.2.2.2.2.2.1 | exact Zl z.2.2.2.2.2.2.2.2.2.2.2.1 | exact Zg z.2.2.2.2.2.2.2.2.2.2.2.1 | exact z.2.2.2.2.2.2.2.2.2.2.2.2.1 | exact Zs z.2.2.2.2.2.2.2.2.2.2.2.2.1 | exact Zl z.2.2.2.2.2.2.2.2.2.2.2.2.1 | exact Zg z.2.2.2.2.2.2.2.2.2.2.2.2.1 | exact z.2.2.2.2.2.2.2.2.2.2.2.2.2.1 | exact Zs z.2.2.2.2.2.2.2.2.2.2.2.2.2.1 | exact Zl z.2.2.2.2.2.2.2.2.2.2.2.2.2.1 | exact Zg z.2.2.2.2.2.2.2.2.2.2.2.2.2.1 | (clear z; (k_extra "mine:pj"))))
  k_with "mine:ne" => (first | (with_reducible assumption) | exact Ne.symm (by with_reducible assumption) | exact ne_lt (by with_reducible assumption) | exact ne_gt (by with_reducible assumption) | exact ne_lt (lt_led (by with_reducible assumption) (by k_mem)) | exact ne_gt (lt_led (by with_reducible assumption) (by k_mem)) | ((try dsimp only); with_reducible (k_extra "mine:pj")) | assumption | exact Nat.ne_of_lt (Nat.lt_succ_self _) | exact Nat.ne_of_gt (Nat.lt_succ_self _) | (walk_say "K_NE OMEGA"; refine neN ?_; (try dsimp only); omega))
  k_with "mine:nes" => (first | (refine And.intro ?_ ?_ <;> (k_extra "mine:nes")) | k_ne)
  k_with "mine:in" => (first | (with_reducible exact List.mem_cons_self) | (with_reducible assumption) | ((with_reducible refine List.mem_cons_of_mem _ ?_); (k_extra "mine:in")) | exact List.mem_cons_self | (refine List.mem_cons_of_mem _ ?_; (k_extra "mine:in")) | (refine List.mem_append_left _ ?_; (k_extra "mine:in")) | (refine List.mem_append_right _ ?_; (k_extra "mine:in")))
  k_with "mine:sub" => (first | (with_reducible exact sub_id) | (with_reducible exact sub_nil) | ((with_reducible refine sub_cons ?haW7 ?hbW7); (case haW7 => (k_extra "mine:in")); (case hbW7 => (k_extra "mine:sub"))) | ((with_reducible refine sub_both ?haW7 ?hbW7); (case haW7 => (k_extra "mine:sub")); (case hbW7 => (k_extra "mine:sub"))) | ((with_reducible refine sub_skip ?_); (k_extra "mine:sub")) | ((with_reducible refine sub_right ?_); (k_extra "mine:sub")) | ((with_reducible refine sub_left ?_); (k_extra "mine:sub")) | (simp only [List.nil_append, List.cons_append]; (k_extra "mine:sub")))
  k_with "mine:keys" => (first | (k_dflt (exact keys_of rfl rfl)) | (walk_say "K_KEYS LONG"; repeat (first | exact True.intro | refine And.intro ⟨_, _, rfl, rfl⟩ ?_)))
  k_with "mine:enter0" => ((refine' enter0 ?k1W7 ?k2W7 ?k3W7 ?k4W7 ?kKW7 ?k8W7 ?k6W7 ?k7W7 ?k9W7 ?kBW7 ?_ ?c2W7 ?c3W7 ?c4W7 ?c5W7; (case kKW7 => assumption); (case k1W7 => k_asm); (case k2W7 => k_asm); (case k3W7 => k_asm); (case k4W7 => k_asm); (case k6W7 => k_is); (case k7W7 => k_is); (case k8W7 => ktr_room); (case k9W7 => exact BindsTo.of_eq rfl); (case c5W7 => decide); (case kBW7 => exact locs rfl); (case c2W7 => exact rfl); (case c3W7 => exact rfl); (case c4W7 => exact rfl); k_whole; intro Lq9 hq9 tkq9 Fq9 Nq9 Bq9 Xq9 Tq9; (try dsimp only); (try k_fold)))
  k_with "mine:ret" => (((all_goals (try dsimp only)); (all_goals (try k_unfold)); (all_goals (try dsimp only))))
  k_with "mine:same" => (first | exact fun _ _ => rfl | exact fun _ _ _ => rfl | exact same_fg | exact same_fgN | (refine same_upY ?_; (k_extra "mine:same")) | (refine same_up (by rfl) ?_; (k_extra "mine:same")) | (refine same_upN (by rfl) ?_; (k_extra "mine:same")) | (intros; (try dsimp only [forget, up]); (repeat' split); all_goals first | rfl | (exfalso; subst_vars; (rename (List.contains _ _ = false) => hz9); (revert hz9); decide) | (exfalso; (rename (List.contains _ _ = false) => hz9); (rename (List.contains _ _ = true) => hz8); rw [hz9] at hz8; exact Bool.noConfusion hz8) | (exfalso; subst_vars; contradiction)))
  trivial
open PySem PySem.W PySem.Calls PySem.Spec PyProof.Rows
theorem pt_cut (i n k : Nat) {st : List Stmt} {sc : Scope} (he : ptSeg 0 6 = some (st, sc)) (hk : i + n = k) (h : k ≤ 6) : ptSeg i n = some ((st.drop i).take n, sc) := by
  unfold ptSeg at he ⊢
  cases hp : lawSeg 19 1 with
  | none => rw [hp] at he; cases he
  | some x =>
    rw [hp] at he
    cases hq : bodyOfFor x.1 with
    | none => simp [hq] at he
    | some b =>
      simp only [Option.bind_some, hq, Option.map_some, Option.some.injEq, Prod.mk.injEq, List.drop_zero] at he ⊢
      obtain ⟨e1, e2⟩ := he
      subst e1 e2
      refine ⟨?_, rfl⟩
      rw [List.drop_take, List.take_take]
      congr 1
      omega
theorem ptLen : (ptSeg 0 6).map (fun x => x.1.length) = some 6 := by kernel_rfl
noncomputable def dueI (ns : List Int) (half sz : Int) (prs : List (Int × Int)) (al : List Int) (pt : Int) : Int :=
  if (al.filter fun v => decide (toldI ns pt v = 1)) = [] then half + (2 * turnsI ns pt prs - 1) * 2 ^ Int.toNat (sz - 1 - (prs.length : Int)) else half
noncomputable abbrev ptNames : List Str := [Str.ofString "place", Str.ofString "price", Str.ofString "due", Str.ofString "turn", Str.ofString "one", Str.ofString "other"]
section
variable {w : World} {s : Shared} {h₀ : Heap} {L fa LN A P TT VL : Addr} {m mg mb : Str → Option Value} {p : Program} {loose : List Str} {mean : ExcName → Option Value} {cd : Value} {o3 o4 oz : Obj}
    {st : List Stmt} {sc : Scope} {Q : Flow → Shared → Prop} {tz tw tp th : Tok} {vt vv av pv lv : List Value} {ns tots al ls : List Int} {prs : List (Int × Int)} {nt ka kp kl : Nat} {pt : Int} {r2 : List (Addr × Obj)}
set_option maxHeartbeats 1000000 in
theorem pt_turn3 (he : ptSeg 0 6 = some (st, sc))
    (B : Below callerA h₀ [] h₀) (X : (hd.heap_1 w.params).In h₀) (T : Top p loose mean mg mb h₀) (cz : oz.data = .cell (some (.int 3 tz))) (cp : o3.data = .cell (some (.int pt tp))) (cv : o4.data = .cell (some (.ref VL)))
    (hm1 : m (Str.ofString "word") = some (.str (wordOf ns) tw)) (hm2 : m (Str.ofString "totals") = some (.ref TT)) (hm3 : m (Str.ofString "alone") = some (.ref A)) (hm4 : m (Str.ofString "pairs") = some (.ref P)) (hm5 : m (Str.ofString "half") = some (.int 4 th)) (hm6 : m (Str.ofString "line") = some (.ref LN))
    (hIt : IntsAre vt tots) (hns : ns.length = 8) (htl : tots.length = 8) (hpt : 0 ≤ pt ∧ pt < 8) (h01 : ∀ x ∈ ns, 0 ≤ x ∧ x ≤ 1) (hIv : IntsAre vv ns)
    (hIa : IntsAre av al) (hal : al.length ≤ 4) (ha : ∀ x ∈ al, 0 ≤ x ∧ x < (8 : Int)) (hb : ∀ q ∈ prs, (0 ≤ q.1 ∧ q.1 < (8 : Int)) ∧ (0 ≤ q.2 ∧ q.2 < (8 : Int))) (h2 : pv.length ≤ 2) (hT : TupsIn r2 pv prs)
    (mT : (TT, W.listOf vt.toArray nt) ∈ r2) (mZ : (L + 1, oz) ∈ r2) (mA : (A, W.listOf av.toArray ka) ∈ r2) (mV : (VL, LCg.lst vv) ∈ r2) (m4 : (L + 1 + 1 + 1 + 1, o4) ∈ r2)
    (hne : ∀ q ∈ r2, @Ne Nat q.1 P ∧ @Ne Nat q.1 LN) (n1 : @Ne Nat P LN) (n2 : @Ne Nat (L + 1 + 1 + 1) P) (n3 : @Ne Nat (L + 1 + 1 + 1) LN)
    (hIl : IntsAre lv ls) (hls : ls.length < 100) (hsr : Srt ls) (hpd : priceI 8 ns (tots.getD pt.toNat 0) = dueI ns 4 3 prs al pt)
    (F : Fr h₀ L s.heap m) (N : News h₀ L s.heap ((LN, W.listOf lv.toArray kl) :: (L + 1 + 1 + 1, o3) :: (P, W.listOf pv.toArray kp) :: r2))
    (kk : ∀ (lv' : List Value) (k' : Nat) (h' : Heap) (tk : Nat) (m' : Str → Option Value), IntsAre lv' (insI ls (priceI 8 ns (tots.getD pt.toNat 0))) → (∀ z, ptNames.contains z = false → m' z = m z) → Fr h₀ L h' m' →
      News h₀ L h' ((LN, W.listOf lv'.toArray k') :: (L + 1 + 1 + 1, o3) :: (P, W.listOf pv.toArray kp) :: r2) → Q .next { s with heap := h', toks := tk }) :
    wpAny (model Challenge.rw_sn0075_01.row.prog w) (callerA.deeper (envOfC (Str.ofString "law") sc L fa cd)) (execs st (envOfC (Str.ofString "law") sc L fa cd)) Q (fun _ _ => False) s := by
  have h6 : st.length = 6 := by
    have h1 := ptLen
    rw [he] at h1
    exact Option.some.inj h1
  have e4 : st.drop 4 = (st.drop 4).take 2 := (List.take_of_length_le (by rw [List.length_drop, h6]; decide)).symm
  rw [show st = st.drop 0 from rfl, cut_at2 st 0 2 2 rfl]
  refine execs_app (ptA3 (nt := nt) (rest := (LN, W.listOf lv.toArray kl) :: (L + 1 + 1 + 1, o3) :: (P, W.listOf pv.toArray kp) :: r2) (pt_cut 0 2 2 he rfl (by decide)) B X T cz cp hm1 hm2 hIt hns htl ⟨hpt.1, by rw [htl]; exact hpt.2⟩ h01 F (fun q hq => N q (by
    exact sub_app (by (k_extra "mine:sub")) hq)) fun t1 h1 tk1 m1 hp1 hk1 F1 N1 => ?_)
  dsimp only
  replace N1 : News h₀ L h1 ((LN, W.listOf lv.toArray kl) :: (L + 1 + 1 + 1, o3) :: (P, W.listOf pv.toArray kp) :: r2) := fun q hq => N1 q (.tail _ (.tail _ (.tail _ hq)))
  rw [cut_at2 st 2 2 4 rfl]
  have fin : ∀ (t2 : Tok) (h2 : Heap) (tk2 : Nat) (m2 : Str → Option Value), m2 (Str.ofString "due") = some (.int (dueI ns 4 3 prs al pt) t2) → (∀ z, [Str.ofString "turn", Str.ofString "one", Str.ofString "other", Str.ofString "due"].contains z = false → m2 z = m1 z) → Fr h₀ L h2 m2 →
      News h₀ L h2 ((LN, W.listOf lv.toArray kl) :: (L + 1 + 1 + 1, o3) :: (P, W.listOf pv.toArray kp) :: r2) →
      wpAny (model Challenge.rw_sn0075_01.row.prog w) (callerA.deeper (envOfC (Str.ofString "law") sc L fa cd)) (execs (st.drop 4) (envOfC (Str.ofString "law") sc L fa cd)) Q (fun _ _ => False) { s with heap := h2, toks := tk2 } := by
    intro t2 h2 tk2 m2 hd2 hk2 F2 N2
    rw [e4]
    rw [← hpd] at hd2
    refine ptC (lv := lv) (kl := kl) (rest := (L + 1 + 1 + 1, o3) :: (P, W.listOf pv.toArray kp) :: r2) (pt_cut 4 2 6 he rfl (by decide)) B X T ((hk2 _ (by decide)).trans hp1) hd2 ((hk2 _ (by decide)).trans ((hk1 _ (by decide)).trans hm6)) hIl hls hsr (fun q hq => ?_) F2 N2 fun lv' k' h3 tk3 hI3 F3 N3 => ?_
    · rcases List.mem_cons.mp hq with rfl | hq
      · exact n3
      · rcases List.mem_cons.mp hq with rfl | hq
        · exact n1
        · exact (hne q hq).2
    · refine kk lv' k' h3 tk3 m2 hI3 (fun z hz => (hk2 z ?_).trans (hk1 z ?_)) F3 N3
      · simp only [List.contains_cons, Bool.or_eq_false_iff] at hz ⊢
        exact ⟨hz.2.2.2.1, hz.2.2.2.2.1, hz.2.2.2.2.2.1, hz.2.2.1, rfl⟩
      · simp only [List.contains_cons, Bool.or_eq_false_iff] at hz ⊢
        exact ⟨hz.1, hz.2.1, rfl⟩
  refine execs_app (ptB (ka := ka) (rest := (LN, W.listOf lv.toArray kl) :: (L + 1 + 1 + 1, o3) :: (P, W.listOf pv.toArray kp) :: r2) (pt_cut 2 2 4 he rfl (by decide)) B X T cp cv ((hk1 _ (by decide)).trans hm3) ((hk1 _ (by decide)).trans hm5) hIa hal (by rw [hns]; exact ha) hIv (by omega) (by rw [hns]; exact hpt) F1 (fun q hq => N1 q (by
    exact sub_app (by (k_extra "mine:sub")) hq)) (fun hz t2 h2' tk2 m2 st' he' hd2 hk2 F2 N2 => ?_) (fun hz t2 h2' tk2 m2 hd2 hk2 F2 N2 => ?_))
  · refine ptT3 (kp := kp) (rest := (LN, W.listOf lv.toArray kl) :: r2) he' B X T cz cp cv ((hk2 _ (by decide)).trans ((hk1 _ (by decide)).trans hm4)) hd2 hIv (by omega) (by rw [hns]; exact hpt) (by rw [hns]; exact hb) h2 ⟨hT.1, fun i v q e1 e2 => ?_⟩ (fun q hq => ?_) F2 (fun q hq => N2 q (by
      exact sub_app (by (k_extra "mine:sub")) hq)) fun t3 h3 tk3 m3 hd3 hk3 F3 N3 => ?_
    · obtain ⟨T', ta, tb, e3, e4⟩ := hT.2 i v q e1 e2
      exact ⟨T', ta, tb, e3, .tail _ e4⟩
    · simp only [List.mem_cons] at hq
      rcases hq with rfl | rfl | rfl | rfl | rfl | h
      · exact (hne _ mV).1
      · exact (hne _ m4).1
      · exact n2
      · exact (hne _ mZ).1
      · exact n1.symm
      · exact (hne q h).1
    · refine fin t3 h3 tk3 m3 ?_ (fun z hz => (hk3 z hz).trans (hk2 z ?_)) F3 (fun q hq => N3 q (by
        exact sub_app (by (k_extra "mine:sub")) hq))
      · unfold dueI
        rw [if_pos hz]
        exact hd3
      · rintro rfl; revert hz; decide
  · refine fin t2 h2' tk2 m2 ?_ (fun z hz => hk2 z ?_) F2 (fun q hq => N2 q (.tail _ (.tail _ (.tail _ (.tail _ hq)))))
    · unfold dueI
      rw [if_neg hz]
      exact hd2
    · rintro rfl; revert hz; decide
end
end PartG6
section PartG6b
open PySem PySem.W PySem.Calls PySem.Spec PyProof.Rows
section
variable {w : World} {s : Shared} {h₀ : Heap} {L fa LN A P TT VL : Addr} {m mg mb : Str → Option Value} {p : Program} {loose : List Str} {mean : ExcName → Option Value} {cd : Value} {o3 o4 oz : Obj}
    {st : List Stmt} {sc : Scope} {Q : Flow → Shared → Prop} {tz tw tp th : Tok} {vt vv av pv lv : List Value} {ns tots al ls : List Int} {prs : List (Int × Int)} {nt ka kp kl : Nat} {pt : Int} {r2 : List (Addr × Obj)}
set_option maxHeartbeats 1000000 in
theorem pt_turn4 (he : ptSeg 0 6 = some (st, sc))
    (B : Below callerA h₀ [] h₀) (X : (hd.heap_1 w.params).In h₀) (T : Top p loose mean mg mb h₀) (cz : oz.data = .cell (some (.int 4 tz))) (cp : o3.data = .cell (some (.int pt tp))) (cv : o4.data = .cell (some (.ref VL)))
    (hm1 : m (Str.ofString "word") = some (.str (wordOf ns) tw)) (hm2 : m (Str.ofString "totals") = some (.ref TT)) (hm3 : m (Str.ofString "alone") = some (.ref A)) (hm4 : m (Str.ofString "pairs") = some (.ref P)) (hm5 : m (Str.ofString "half") = some (.int 8 th)) (hm6 : m (Str.ofString "line") = some (.ref LN))
    (hIt : IntsAre vt tots) (hns : ns.length = 16) (htl : tots.length = 16) (hpt : 0 ≤ pt ∧ pt < 16) (h01 : ∀ x ∈ ns, 0 ≤ x ∧ x ≤ 1) (hIv : IntsAre vv ns)
    (hIa : IntsAre av al) (hal : al.length ≤ 4) (ha : ∀ x ∈ al, 0 ≤ x ∧ x < (16 : Int)) (hb : ∀ q ∈ prs, (0 ≤ q.1 ∧ q.1 < (16 : Int)) ∧ (0 ≤ q.2 ∧ q.2 < (16 : Int))) (h2 : pv.length ≤ 2) (hT : TupsIn r2 pv prs)
    (mT : (TT, W.listOf vt.toArray nt) ∈ r2) (mZ : (L + 1, oz) ∈ r2) (mA : (A, W.listOf av.toArray ka) ∈ r2) (mV : (VL, LCg.lst vv) ∈ r2) (m4 : (L + 1 + 1 + 1 + 1, o4) ∈ r2)
    (hne : ∀ q ∈ r2, @Ne Nat q.1 P ∧ @Ne Nat q.1 LN) (n1 : @Ne Nat P LN) (n2 : @Ne Nat (L + 1 + 1 + 1) P) (n3 : @Ne Nat (L + 1 + 1 + 1) LN)
    (hIl : IntsAre lv ls) (hls : ls.length < 100) (hsr : Srt ls) (hpd : priceI 16 ns (tots.getD pt.toNat 0) = dueI ns 8 4 prs al pt)
    (F : Fr h₀ L s.heap m) (N : News h₀ L s.heap ((LN, W.listOf lv.toArray kl) :: (L + 1 + 1 + 1, o3) :: (P, W.listOf pv.toArray kp) :: r2))
    (kk : ∀ (lv' : List Value) (k' : Nat) (h' : Heap) (tk : Nat) (m' : Str → Option Value), IntsAre lv' (insI ls (priceI 16 ns (tots.getD pt.toNat 0))) → (∀ z, ptNames.contains z = false → m' z = m z) → Fr h₀ L h' m' →
      News h₀ L h' ((LN, W.listOf lv'.toArray k') :: (L + 1 + 1 + 1, o3) :: (P, W.listOf pv.toArray kp) :: r2) → Q .next { s with heap := h', toks := tk }) :
    wpAny (model Challenge.rw_sn0075_01.row.prog w) (callerA.deeper (envOfC (Str.ofString "law") sc L fa cd)) (execs st (envOfC (Str.ofString "law") sc L fa cd)) Q (fun _ _ => False) s := by
  have h6 : st.length = 6 := by
    have h1 := ptLen
    rw [he] at h1
    exact Option.some.inj h1
  have e4 : st.drop 4 = (st.drop 4).take 2 := (List.take_of_length_le (by rw [List.length_drop, h6]; decide)).symm
  rw [show st = st.drop 0 from rfl, cut_at2 st 0 2 2 rfl]
  refine execs_app (ptA4 (nt := nt) (rest := (LN, W.listOf lv.toArray kl) :: (L + 1 + 1 + 1, o3) :: (P, W.listOf pv.toArray kp) :: r2) (pt_cut 0 2 2 he rfl (by decide)) B X T cz cp hm1 hm2 hIt hns htl ⟨hpt.1, by rw [htl]; exact hpt.2⟩ h01 F (fun q hq => N q (by
    exact sub_app (by (k_extra "mine:sub")) hq)) fun t1 h1 tk1 m1 hp1 hk1 F1 N1 => ?_)
  dsimp only
  replace N1 : News h₀ L h1 ((LN, W.listOf lv.toArray kl) :: (L + 1 + 1 + 1, o3) :: (P, W.listOf pv.toArray kp) :: r2) := fun q hq => N1 q (.tail _ (.tail _ (.tail _ hq)))
  rw [cut_at2 st 2 2 4 rfl]
  have fin : ∀ (t2 : Tok) (h2 : Heap) (tk2 : Nat) (m2 : Str → Option Value), m2 (Str.ofString "due") = some (.int (dueI ns 8 4 prs al pt) t2) → (∀ z, [Str.ofString "turn", Str.ofString "one", Str.ofString "other", Str.ofString "due"].contains z = false → m2 z = m1 z) → Fr h₀ L h2 m2 →
      News h₀ L h2 ((LN, W.listOf lv.toArray kl) :: (L + 1 + 1 + 1, o3) :: (P, W.listOf pv.toArray kp) :: r2) →
      wpAny (model Challenge.rw_sn0075_01.row.prog w) (callerA.deeper (envOfC (Str.ofString "law") sc L fa cd)) (execs (st.drop 4) (envOfC (Str.ofString "law") sc L fa cd)) Q (fun _ _ => False) { s with heap := h2, toks := tk2 } := by
    intro t2 h2 tk2 m2 hd2 hk2 F2 N2
    rw [e4]
    rw [← hpd] at hd2
    refine ptC (lv := lv) (kl := kl) (rest := (L + 1 + 1 + 1, o3) :: (P, W.listOf pv.toArray kp) :: r2) (pt_cut 4 2 6 he rfl (by decide)) B X T ((hk2 _ (by decide)).trans hp1) hd2 ((hk2 _ (by decide)).trans ((hk1 _ (by decide)).trans hm6)) hIl hls hsr (fun q hq => ?_) F2 N2 fun lv' k' h3 tk3 hI3 F3 N3 => ?_
    · rcases List.mem_cons.mp hq with rfl | hq
      · exact n3
      · rcases List.mem_cons.mp hq with rfl | hq
        · exact n1
        · exact (hne q hq).2
    · refine kk lv' k' h3 tk3 m2 hI3 (fun z hz => (hk2 z ?_).trans (hk1 z ?_)) F3 N3
      · simp only [List.contains_cons, Bool.or_eq_false_iff] at hz ⊢
        exact ⟨hz.2.2.2.1, hz.2.2.2.2.1, hz.2.2.2.2.2.1, hz.2.2.1, rfl⟩
      · simp only [List.contains_cons, Bool.or_eq_false_iff] at hz ⊢
        exact ⟨hz.1, hz.2.1, rfl⟩
  refine execs_app (ptB (ka := ka) (rest := (LN, W.listOf lv.toArray kl) :: (L + 1 + 1 + 1, o3) :: (P, W.listOf pv.toArray kp) :: r2) (pt_cut 2 2 4 he rfl (by decide)) B X T cp cv ((hk1 _ (by decide)).trans hm3) ((hk1 _ (by decide)).trans hm5) hIa hal (by rw [hns]; exact ha) hIv (by omega) (by rw [hns]; exact hpt) F1 (fun q hq => N1 q (by
    exact sub_app (by (k_extra "mine:sub")) hq)) (fun hz t2 h2' tk2 m2 st' he' hd2 hk2 F2 N2 => ?_) (fun hz t2 h2' tk2 m2 hd2 hk2 F2 N2 => ?_))
  · refine ptT4 (kp := kp) (rest := (LN, W.listOf lv.toArray kl) :: r2) he' B X T cz cp cv ((hk2 _ (by decide)).trans ((hk1 _ (by decide)).trans hm4)) hd2 hIv (by omega) (by rw [hns]; exact hpt) (by rw [hns]; exact hb) h2 ⟨hT.1, fun i v q e1 e2 => ?_⟩ (fun q hq => ?_) F2 (fun q hq => N2 q (by
      exact sub_app (by (k_extra "mine:sub")) hq)) fun t3 h3 tk3 m3 hd3 hk3 F3 N3 => ?_
    · obtain ⟨T', ta, tb, e3, e4⟩ := hT.2 i v q e1 e2
      exact ⟨T', ta, tb, e3, .tail _ e4⟩
    · simp only [List.mem_cons] at hq
      rcases hq with rfl | rfl | rfl | rfl | rfl | h
      · exact (hne _ mV).1
      · exact (hne _ m4).1
      · exact n2
      · exact (hne _ mZ).1
      · exact n1.symm
      · exact (hne q h).1
    · refine fin t3 h3 tk3 m3 ?_ (fun z hz => (hk3 z hz).trans (hk2 z ?_)) F3 (fun q hq => N3 q (by
        exact sub_app (by (k_extra "mine:sub")) hq))
      · unfold dueI
        rw [if_pos hz]
        exact hd3
      · rintro rfl; revert hz; decide
  · refine fin t2 h2' tk2 m2 ?_ (fun z hz => hk2 z ?_) F2 (fun q hq => N2 q (.tail _ (.tail _ (.tail _ (.tail _ hq)))))
    · unfold dueI
      rw [if_neg hz]
      exact hd2
    · rintro rfl; revert hz; decide
end
end PartG6b
section PartG7
open PySem PySem.W PySem.Calls PySem.Spec PyProof.Rows
section
variable {w : World} {s : Shared} {h₀ : Heap} {L fa LN : Addr} {m mg mb : Str → Option Value} {p : Program} {loose : List Str} {mean : ExcName → Option Value} {cd : Value} {o3 oL : Obj}
    {st : List Stmt} {sc : Scope} {Q : Unit → Shared → Prop} {t : Tok} {i : Int} {py : Pos} {rst : List (Addr × Obj)} {vo : Option Value}
set_option maxHeartbeats 4000000 in
theorem pt_set (he : lawSeg 19 1 = some (st, sc))
    (B : Below callerA h₀ [] h₀) (X : (hd.heap_1 w.params).In h₀) (T : Top p loose mean mg mb h₀) (c3 : o3.data = .cell vo) (n3 : @Ne Nat (L + 1 + 1 + 1) LN) (hne : ∀ q ∈ rst, q.1 ≠ L + 1 + 1 + 1)
    (F : Fr h₀ L s.heap m) (N : News h₀ L s.heap ((LN, oL) :: (L + 1 + 1 + 1, o3) :: rst))
    (kk : ∀ (o3' : Obj) (h' : Heap) (tk : Nat), o3'.data = .cell (some (.int i t)) → Fr h₀ L h' m → News h₀ L h' ((LN, oL) :: (L + 1 + 1 + 1, o3') :: rst) → Q () { s with heap := h', toks := tk }) :
    wpAny (model Challenge.rw_sn0075_01.row.prog w) (callerA.deeper (envOfC (Str.ofString "law") sc L fa cd)) (assign (.Name (Str.ofString "point") py) (envOfC (Str.ofString "law") sc L fa cd) (.int i t)) Q (fun _ _ => False) s := by
  revert X; k_fill; intro X
  have he2 : lawSeg 19 1 = some ([_], _) := rfl
  rw [he] at he2
  cases he2
  clear he
  repeat (first | (dsimp only; walk1) | walk1)
  exact storeX_C F N rfl (UpdF.tail (fun e => n3 e.symm) (UpdF.head hne)) c3 (fun h' o' F' N' d' => kk o' h' _ d' F' N')
end
end PartG7
section PartG8
open PySem PySem.W PySem.Calls PySem.Spec PyProof.Rows
section
variable {w : World} {s : Shared} {h₀ : Heap} {L fa LN A P TT VL : Addr} {m mg mb : Str → Option Value} {p : Program} {loose : List Str} {mean : ExcName → Option Value} {cd : Value} {o3 o4 oz : Obj}
    {st : List Stmt} {sc : Scope} {Q : Flow → Shared → Prop} {tz tw tp th : Tok} {vt vv av pv lv : List Value} {ns tots al ls : List Int} {prs : List (Int × Int)} {nt ka kp kl : Nat} {r2 : List (Addr × Obj)}
theorem words_G8_1 : True := by
  k_with "exec For Name Call cons nil" => ((k_here; (rename Fr _ _ _ _ => lFq9); (with_unfolding_all refine' For_turns lFq9 ?_); k_whole))
  k_with "pyIter ref" => ((k_here; fail "stop"))
  trivial
set_option maxHeartbeats 4000000 in
theorem segG3 (he : lawSeg 19 1 = some (st, sc))
    (B : Below callerA h₀ [] h₀) (X : (hd.heap_1 w.params).In h₀) (T : Top p loose mean mg mb h₀) (cz : oz.data = .cell (some (.int 3 tz))) {vo : Option Value} (c3 : o3.data = .cell vo) (cv : o4.data = .cell (some (.ref VL)))
    (hm1 : m (Str.ofString "word") = some (.str (wordOf ns) tw)) (hm2 : m (Str.ofString "totals") = some (.ref TT)) (hm3 : m (Str.ofString "alone") = some (.ref A)) (hm4 : m (Str.ofString "pairs") = some (.ref P)) (hm5 : m (Str.ofString "half") = some (.int 4 th)) (hm6 : m (Str.ofString "line") = some (.ref LN))
    (hIt : IntsAre vt tots) (hns : ns.length = 8) (htl : tots.length = 8) (h01 : ∀ x ∈ ns, 0 ≤ x ∧ x ≤ 1) (hIv : IntsAre vv ns)
    (hIa : IntsAre av al) (hal : al.length ≤ 4) (ha : ∀ x ∈ al, 0 ≤ x ∧ x < (8 : Int)) (hb : ∀ q ∈ prs, (0 ≤ q.1 ∧ q.1 < (8 : Int)) ∧ (0 ≤ q.2 ∧ q.2 < (8 : Int))) (h2 : pv.length ≤ 2) (hT : TupsIn r2 pv prs)
    (mT : (TT, W.listOf vt.toArray nt) ∈ r2) (mZ : (L + 1, oz) ∈ r2) (mA : (A, W.listOf av.toArray ka) ∈ r2) (mV : (VL, LCg.lst vv) ∈ r2) (m4 : (L + 1 + 1 + 1 + 1, o4) ∈ r2)
    (hne : ∀ q ∈ r2, @Ne Nat q.1 P ∧ @Ne Nat q.1 LN ∧ @Ne Nat q.1 (L + 1 + 1 + 1)) (n1 : @Ne Nat P LN) (n2 : @Ne Nat (L + 1 + 1 + 1) P) (n3 : @Ne Nat (L + 1 + 1 + 1) LN)
    (hpd : ∀ i : Nat, i < 8 → priceI 8 ns (tots.getD i 0) = dueI ns 4 3 prs al (i : Int))
    (F : Fr h₀ L s.heap m) (N : News h₀ L s.heap ((LN, W.listOf #[] 0) :: (L + 1 + 1 + 1, o3) :: (P, W.listOf pv.toArray kp) :: r2))
    (kk : ∀ (lv : List Value) (kl : Nat) (o3' : Obj) (h' : Heap) (tk : Nat) (m' : Str → Option Value), IntsAre lv (lineF (fun i => priceI 8 ns (tots.getD i 0)) 8) → (∀ z, ptNames.contains z = false → m' z = m z) → Fr h₀ L h' m' →
      News h₀ L h' ((LN, W.listOf lv.toArray kl) :: (L + 1 + 1 + 1, o3') :: (P, W.listOf pv.toArray kp) :: r2) → Q .next { s with heap := h', toks := tk }) :
    wpAny (model Challenge.rw_sn0075_01.row.prog w) (callerA.deeper (envOfC (Str.ofString "law") sc L fa cd)) (execs st (envOfC (Str.ofString "law") sc L fa cd)) Q (fun _ _ => False) s := by
  have heK := he
  revert X; k_fill; intro X
  have he2 : lawSeg 19 1 = some ([_], _) := rfl
  have he6 : ptSeg 0 6 = some (_, _) := rfl
  rw [he] at he2
  cases he2
  replace N : News h₀ L s.heap ((L + 1, oz) :: (LN, W.listOf #[] 0) :: (L + 1 + 1 + 1, o3) :: (P, W.listOf pv.toArray kp) :: r2) := fun q hq => by
    rcases List.mem_cons.mp hq with rfl | hq
    · exact N _ (.tail _ (.tail _ (.tail _ mZ)))
    · exact N q hq
  (iterate 12 (first | (dsimp only; walk1) | walk1))
  (rename Fr _ _ _ _ => kF); (rename News _ _ _ _ => kN); (rename IsRange _ _ _ _ _ _ _ _ => kR)
  replace kN := fun q hq => kN q (.tail _ hq)
  have nLN : ∀ q ∈ (L + 1 + 1 + 1, o3) :: (P, W.listOf pv.toArray kp) :: r2, @Ne Nat q.1 LN := fun q hq => by
    rcases List.mem_cons.mp hq with rfl | hq
    · exact n3
    · rcases List.mem_cons.mp hq with rfl | hq
      · exact n1
      · exact (hne q hq).2.1
  with_unfolding_all refine' iter_turnsI (n := 8) (m₀ := m) (fun i m' news => ∃ (lv : List Value) (kl : Nat) (o3' : Obj) (vo' : Option Value), news = (LN, W.listOf lv.toArray kl) :: (L + 1 + 1 + 1, o3') :: (P, W.listOf pv.toArray kp) :: r2 ∧ IntsAre lv (lineF (fun i => priceI 8 ns (tots.getD i 0)) i) ∧ o3'.data = .cell vo' ∧ ∀ z, ptNames.contains z = false → m' z = m z) rfl kR ?hs ?hn kF kN ?hj ?turn ?done
  case hs => decide +kernel
  case hn => first | exact rangeSize_nat _ _ | rfl
  case hj => exact ⟨[], 0, o3, vo, rfl, .nil, c3, fun _ _ => rfl⟩
  case turn =>
    rintro i t m₁ news₁ h tk own hi hadr hoff ⟨lv, kl, o3', vo', rfl, hIl, c3', hs⟩ F1 N1
    have hpt : (0 : Int) ≤ 0 + (i : Int) ∧ (0 : Int) + (i : Int) < 8 := by omega
    have hmem : ∀ {q : Addr × Obj}, q ∈ r2 → q ∈ r2 ++ own := fun hq => List.mem_append_left _ hq
    have o1 : ∀ q ∈ own, q.1 ≠ LN := hoff.ne (.head _)
    have o2 : ∀ q ∈ own, q.1 ≠ L + 1 + 1 + 1 := hoff.ne (.tail _ (.head _))
    have o3n : ∀ q ∈ own, q.1 ≠ P := hoff.ne (.tail _ (.tail _ (.head _)))
    have ee : ((0 : Int) + (i : Int)).toNat = i := by omega
    refine pt_set heK B X T c3' n3 (fun q hq => ?_) F1 N1 fun o4' h1 tk1 c4' F2 N2 => ?_
    · rcases List.mem_cons.mp hq with rfl | hq
      · exact n2.symm
      · rcases List.mem_append.mp hq with hq | hq
        · exact (hne q hq).2.2
        · exact o2 q hq
    · refine pt_turn3 (nt := nt) (ka := ka) (kp := kp) (kl := kl) (r2 := r2 ++ own) he6 B X T cz c4' cv ((hs _ (by decide)).trans hm1) ((hs _ (by decide)).trans hm2) ((hs _ (by decide)).trans hm3) ((hs _ (by decide)).trans hm4) ((hs _ (by decide)).trans hm5) ((hs _ (by decide)).trans hm6)
        hIt hns htl hpt h01 hIv hIa hal ha hb h2 ⟨hT.1, fun j v q e1 e2 => ?_⟩ (hmem mT) (hmem mZ) (hmem mA) (hmem mV) (hmem m4) (fun q hq => ?_) n1 n2 n3 hIl ?_ (srt_of (line_sorted _ _)) ?_ F2 N2 fun lv' k' h3 tk3 m3 hI3 hk3 F3 N3 => ?_
      · obtain ⟨T', ta, tb, e3, e4⟩ := hT.2 j v q e1 e2
        exact ⟨T', ta, tb, e3, hmem e4⟩
      · rcases List.mem_append.mp hq with hq | hq
        · exact ⟨(hne q hq).1, (hne q hq).2.1⟩
        · exact ⟨o3n q hq, o1 q hq⟩
      · rw [line_length]; omega
      · rw [ee, hpd i hi, show (0 : Int) + (i : Int) = (i : Int) from Int.zero_add _]
      · rw [ee] at hI3
        exact InvEndN.intro F3 N3 ⟨lv', k', o4', _, rfl, hI3, c4', fun z hz => (hk3 z hz).trans (hs z hz)⟩ rfl (fun q hq => by
          exact sub_app (by (k_extra "mine:sub")) hq) (fun q hq => .tail _ (.tail _ (.tail _ (List.mem_append_right _ hq))))
  case done =>
    rintro m₁ news₁ h tk ⟨lv, kl, o3', vo', rfl, hIl, c3', hs⟩ F1 N1
    exact wpAny_execs_nil (kk lv kl o3' h tk m₁ hIl hs F1 N1)
end
end PartG8
section PartG8b
theorem base_G8b : True := by
  w_top off
  k_with_none
  k_with "mine:step" => ((first | (k_unfold; (try dsimp only)) | (k_end; wrow_close) | walk1 | (dsimp only; walk1) | (leave1; walk_say "STEP leave1"; try dsimp only) | fail "no step"))
  k_with "storeName" => ((k_here; k_dflt (first | (refine' storeI ?FW7 ?NW7 ?_ ?aW7 ?bW7; (case FW7 => k_asm); (case NW7 => k_asm); (case aW7 => rfl); (case bW7 => rfl); k_whole; intro hq9 tq9 tkq9 Fq9 Nq9; (try k_sweep)) | (refine' storeU ?FW7 ?NW7 ?_ ?aW7 ?bW7; (case FW7 => k_asm); (case NW7 => k_asm); (case aW7 => rfl); (case bW7 => rfl); k_whole; intro hq9 tkq9 Fq9 Nq9; (try k_sweep)))))
  k_with "mine:pj" => (((rename (_ ∧ _) => z); first | exact z.1 | exact Zs z.1 | exact Zl z.1 | exact Zg z.1 | exact z.2 | exact Zs z.2 | exact Zl z.2 | exact Zg z.2 | exact z.2.1 | exact Zs z.2.1 | exact Zl z.2.1 | exact Zg z.2.1 | exact z.2.2 | exact Zs z.2.2 | exact Zl z.2.2 | exact Zg z.2.2 | exact z.2.2.1 | exact Zs z.2.2.1 | exact Zl z.2.2.1 | exact Zg z.2.2.1 | exact z.2.2.2 | exact Zs z.2.2.2 | exact Zl z.2.2.2 | exact Zg z.2.2.2 | exact z.2.2.2.1 | exact Zs z.2.2.2.1 | exact Zl z.2.2.2.1 | exact Zg z.2.2.2.1 | exact z.2.2.2.2 | exact Zs z.2.2.2.2 | exact Zl z.2.2.2.2 | exact Zg z.2.2.2.2 | exact z.2.2.2.2.1 | exact Zs z.2.2.2.2.1 | exact Zl z.2.2.2.2.1 | exact Zg z.2.2.2.2.1 | exact z.2.2.2.2.2 | exact Zs z.2.2.2.2.2 | exact Zl z.2.2.2.2.2 | exact Zg z.2.2.2.2.2 | exact z.2.2.2.2.2.1 | exact Zs z.2.2.2.2.2.1 | exact Zl z.2.2.2.2.2.1 | exact Zg z.2.2.2.2.2.1 | exact z.2.2.2.2.2.2 | exact Zs z.2.2.2.2.2.2 | exact Zl z.2.2.2.2.2.2 | exact Zg z.2.2.2.2.2.2 | exact z.2.2.2.2.2.2.1 | exact Zs z.2.2.2.2.2.2.1 | exact Zl z.2.2.2.2.2.2.1 | exact Zg z.2.2.2.2.2.2.1 | exact z.2.2.2.2.2.2.2 | exact Zs z.2.2.2.2.2.2.2 | exact Zl z.2.2.2.2.2.2.2 | exact Zg z.2.2.2.2.2.2.2 | exact z.2.2.2.2.2.2.2.1 | exact Zs z.2.2.2.2.2.2.2.1 | exact Zl z.2.2.2.2.2.2.2.1 | exact Zg z.2.2.2.2.2.2.2.1 | exact z.2.2.2.2.2.2.2.2 | exact Zs z.2.2.2.2.2.2.2.2 | exact Zl z.2.2.2.2.2.2.2.2 | exact Zg z.2.2.2.2.2.2.2.2 | exact z.2.2.2.2.2.2.2.2.1 | exact Zs z.2.2.2.2.2.2.2.2.1 | exact Zl z.2.2.2.2.2.2.2.2.1 | exact Zg z.2.2.2.2.2.2.2.2.1 | exact z.2.2.2.2.2.2.2.2.2.1 | exact Zs z.2.2.2.2.2.2.2.2.2.1 | exact Zl z.2.2.2.2.2.2.2.2.2.1 | exact Zg z.2.2.2.2.2.2.2.2.2.1 | exact z.2.2.2.2.2.2.2.2.2.2.1 | exact Zs z.2.2.2.2.2.2.2.2.2.2.1 | exact Zl z.2.2.2.2.2.2.2.2.2.2.1 | exact Zg z.2.2.2.2.2.2.2.2.2.2.1 | exact z.2.2.2.2.2.2.2.2.2.2.2.1 | exact Zs z.2.2.2.2.2.2.2.2.2.2.2.1 | exact Zl z.2.2.2.2.2.2.2.2.2.2.2.1 | exact Zg z.2.2.2.2.2.2.2.2.2.2.2.1 | exact z.2.2.2.2.2.2.2.2.2.2.2.2.1 | exact Zs z.2.2.2.2.2.2.2.2.2.2.2.2.1 | exact Zl z.2.2.2.2.2.2.2.2.2.2.2.2.1 | exact Zg z.2.2.2.2.2.2.2.2.2.2.2.2.1 | exact z.2.2.2.2.2.2.2.2.2.2.2.2.2.1 | exact Zs z.2.2.2.2.2.2.2.2.2.2.2.2.2.1 | exact Zl z.2.2.2.2.2.2.2.2.2.2.2.2.2.1 | exact Zg z.2.2.2.2.2.2.2.2.2.2.2.2.2.1 | (clear z; (k_extra "mine:pj"))))
  k_with "mine:ne" => (first | (with_reducible assumption) | exact Ne.symm (by with_reducible assumption) | exact ne_lt (by with_reducible assumption) | exact ne_gt (by with_reducible assumption) | exact ne_lt (lt_led (by with_reducible assumption) (by k_mem)) | exact ne_gt (lt_led (by with_reducible assumption) (by k_mem)) | ((try dsimp only); with_reducible (k_extra "mine:pj")) | assumption | exact Nat.ne_of_lt (Nat.lt_succ_self _) | exact Nat.ne_of_gt (Nat.lt_succ_self _) | (walk_say "K_NE OMEGA"; refine neN ?_; (try dsimp only); omega))
  k_with "mine:nes" => (first | (refine And.intro ?_ ?_ <;> (k_extra "mine:nes")) | k_ne)
  k_with "mine:in" => (first | (with_reducible exact List.mem_cons_self) | (with_reducible assumption) | ((with_reducible refine List.mem_cons_of_mem _ ?_); (k_extra "mine:in")) | exact List.mem_cons_self | (refine List.mem_cons_of_mem _ ?_; (k_extra "mine:in")) | (refine List.mem_append_left _ ?_; (k_extra "mine:in")) | (refine List.mem_append_right _ ?_; (k_extra "mine:in")))
  k_with "mine:sub" => (first | (with_reducible exact sub_id) | (with_reducible exact sub_nil) | ((with_reducible refine sub_cons ?haW7 ?hbW7); (case haW7 => (k_extra "mine:in")); (case hbW7 => (k_extra "mine:sub"))) | ((with_reducible refine sub_both ?haW7 ?hbW7); (case haW7 => (k_extra "mine:sub")); (case hbW7 => (k_extra "mine:sub"))) | ((with_reducible refine sub_skip ?_); (k_extra "mine:sub")) | ((with_reducible refine sub_right ?_); (k_extra "mine:sub")) | ((with_reducible refine sub_left ?_); (k_extra "mine:sub")) | (simp only [List.nil_append, List.cons_append]; (k_extra "mine:sub")))
  k_with "mine:keys" => (first | (k_dflt (exact keys_of rfl rfl)) | (walk_say "K_KEYS LONG"; repeat (first | exact True.intro | refine And.intro ⟨_, _, rfl, rfl⟩ ?_)))
  k_with "mine:enter0" => ((refine' enter0 ?k1W7 ?k2W7 ?k3W7 ?k4W7 ?kKW7 ?k8W7 ?k6W7 ?k7W7 ?k9W7 ?kBW7 ?_ ?c2W7 ?c3W7 ?c4W7 ?c5W7; (case kKW7 => assumption); (case k1W7 => k_asm); (case k2W7 => k_asm); (case k3W7 => k_asm); (case k4W7 => k_asm); (case k6W7 => k_is); (case k7W7 => k_is); (case k8W7 => ktr_room); (case k9W7 => exact BindsTo.of_eq rfl); (case c5W7 => decide); (case kBW7 => exact locs rfl); (case c2W7 => exact rfl); (case c3W7 => exact rfl); (case c4W7 => exact rfl); k_whole; intro Lq9 hq9 tkq9 Fq9 Nq9 Bq9 Xq9 Tq9; (try dsimp only); (try k_fold)))
  k_with "mine:ret" => (((all_goals (try dsimp only)); (all_goals (try k_unfold)); (all_goals (try dsimp only))))
  k_with "mine:same" => (first | exact fun _ _ => rfl | exact fun _ _ _ => rfl | exact same_fg | exact same_fgN | (refine same_upY ?_; (k_extra "mine:same")) | (refine same_up (by rfl) ?_; (k_extra "mine:same")) | (refine same_upN (by rfl) ?_; (k_extra "mine:same")) | (intros; (try dsimp only [forget, up]); (repeat' split); all_goals first | rfl | (exfalso; subst_vars; (rename (List.contains _ _ = false) => hz9); (revert hz9); decide) | (exfalso; (rename (List.contains _ _ = false) => hz9); (rename (List.contains _ _ = true) => hz8); rw [hz9] at hz8; exact Bool.noConfusion hz8) | (exfalso; subst_vars; contradiction)))
  trivial
open PySem PySem.W PySem.Calls PySem.Spec PyProof.Rows
section
variable {w : World} {s : Shared} {h₀ : Heap} {L fa LN A P TT VL : Addr} {m mg mb : Str → Option Value} {p : Program} {loose : List Str} {mean : ExcName → Option Value} {cd : Value} {o3 o4 oz : Obj}
    {st : List Stmt} {sc : Scope} {Q : Flow → Shared → Prop} {tz tw tp th : Tok} {vt vv av pv lv : List Value} {ns tots al ls : List Int} {prs : List (Int × Int)} {nt ka kp kl : Nat} {r2 : List (Addr × Obj)}
theorem words_G8b_1 : True := by
  k_with "exec For Name Call cons nil" => ((k_here; (rename Fr _ _ _ _ => lFq9); (with_unfolding_all refine' For_turns lFq9 ?_); k_whole))
  k_with "pyIter ref" => ((k_here; fail "stop"))
  trivial
set_option maxHeartbeats 4000000 in
theorem segG4 (he : lawSeg 19 1 = some (st, sc))
    (B : Below callerA h₀ [] h₀) (X : (hd.heap_1 w.params).In h₀) (T : Top p loose mean mg mb h₀) (cz : oz.data = .cell (some (.int 4 tz))) {vo : Option Value} (c3 : o3.data = .cell vo) (cv : o4.data = .cell (some (.ref VL)))
    (hm1 : m (Str.ofString "word") = some (.str (wordOf ns) tw)) (hm2 : m (Str.ofString "totals") = some (.ref TT)) (hm3 : m (Str.ofString "alone") = some (.ref A)) (hm4 : m (Str.ofString "pairs") = some (.ref P)) (hm5 : m (Str.ofString "half") = some (.int 8 th)) (hm6 : m (Str.ofString "line") = some (.ref LN))
    (hIt : IntsAre vt tots) (hns : ns.length = 16) (htl : tots.length = 16) (h01 : ∀ x ∈ ns, 0 ≤ x ∧ x ≤ 1) (hIv : IntsAre vv ns)
    (hIa : IntsAre av al) (hal : al.length ≤ 4) (ha : ∀ x ∈ al, 0 ≤ x ∧ x < (16 : Int)) (hb : ∀ q ∈ prs, (0 ≤ q.1 ∧ q.1 < (16 : Int)) ∧ (0 ≤ q.2 ∧ q.2 < (16 : Int))) (h2 : pv.length ≤ 2) (hT : TupsIn r2 pv prs)
    (mT : (TT, W.listOf vt.toArray nt) ∈ r2) (mZ : (L + 1, oz) ∈ r2) (mA : (A, W.listOf av.toArray ka) ∈ r2) (mV : (VL, LCg.lst vv) ∈ r2) (m4 : (L + 1 + 1 + 1 + 1, o4) ∈ r2)
    (hne : ∀ q ∈ r2, @Ne Nat q.1 P ∧ @Ne Nat q.1 LN ∧ @Ne Nat q.1 (L + 1 + 1 + 1)) (n1 : @Ne Nat P LN) (n2 : @Ne Nat (L + 1 + 1 + 1) P) (n3 : @Ne Nat (L + 1 + 1 + 1) LN)
    (hpd : ∀ i : Nat, i < 16 → priceI 16 ns (tots.getD i 0) = dueI ns 8 4 prs al (i : Int))
    (F : Fr h₀ L s.heap m) (N : News h₀ L s.heap ((LN, W.listOf #[] 0) :: (L + 1 + 1 + 1, o3) :: (P, W.listOf pv.toArray kp) :: r2))
    (kk : ∀ (lv : List Value) (kl : Nat) (o3' : Obj) (h' : Heap) (tk : Nat) (m' : Str → Option Value), IntsAre lv (lineF (fun i => priceI 16 ns (tots.getD i 0)) 16) → (∀ z, ptNames.contains z = false → m' z = m z) → Fr h₀ L h' m' →
      News h₀ L h' ((LN, W.listOf lv.toArray kl) :: (L + 1 + 1 + 1, o3') :: (P, W.listOf pv.toArray kp) :: r2) → Q .next { s with heap := h', toks := tk }) :
    wpAny (model Challenge.rw_sn0075_01.row.prog w) (callerA.deeper (envOfC (Str.ofString "law") sc L fa cd)) (execs st (envOfC (Str.ofString "law") sc L fa cd)) Q (fun _ _ => False) s := by
  have heK := he
  revert X; k_fill; intro X
  have he2 : lawSeg 19 1 = some ([_], _) := rfl
  have he6 : ptSeg 0 6 = some (_, _) := rfl
  rw [he] at he2
  cases he2
  replace N : News h₀ L s.heap ((L + 1, oz) :: (LN, W.listOf #[] 0) :: (L + 1 + 1 + 1, o3) :: (P, W.listOf pv.toArray kp) :: r2) := fun q hq => by
    rcases List.mem_cons.mp hq with rfl | hq
    · exact N _ (.tail _ (.tail _ (.tail _ mZ)))
    · exact N q hq
  (iterate 12 (first | (dsimp only; walk1) | walk1))
  (rename Fr _ _ _ _ => kF); (rename News _ _ _ _ => kN); (rename IsRange _ _ _ _ _ _ _ _ => kR)
  replace kN := fun q hq => kN q (.tail _ hq)
  have nLN : ∀ q ∈ (L + 1 + 1 + 1, o3) :: (P, W.listOf pv.toArray kp) :: r2, @Ne Nat q.1 LN := fun q hq => by
    rcases List.mem_cons.mp hq with rfl | hq
    · exact n3
    · rcases List.mem_cons.mp hq with rfl | hq
      · exact n1
      · exact (hne q hq).2.1
  with_unfolding_all refine' iter_turnsI (n := 16) (m₀ := m) (fun i m' news => ∃ (lv : List Value) (kl : Nat) (o3' : Obj) (vo' : Option Value), news = (LN, W.listOf lv.toArray kl) :: (L + 1 + 1 + 1, o3') :: (P, W.listOf pv.toArray kp) :: r2 ∧ IntsAre lv (lineF (fun i => priceI 16 ns (tots.getD i 0)) i) ∧ o3'.data = .cell vo' ∧ ∀ z, ptNames.contains z = false → m' z = m z) rfl kR ?hs ?hn kF kN ?hj ?turn ?done
  case hs => decide +kernel
  case hn => first | exact rangeSize_nat _ _ | rfl
  case hj => exact ⟨[], 0, o3, vo, rfl, .nil, c3, fun _ _ => rfl⟩
  case turn =>
    rintro i t m₁ news₁ h tk own hi hadr hoff ⟨lv, kl, o3', vo', rfl, hIl, c3', hs⟩ F1 N1
    have hpt : (0 : Int) ≤ 0 + (i : Int) ∧ (0 : Int) + (i : Int) < 16 := by omega
    have hmem : ∀ {q : Addr × Obj}, q ∈ r2 → q ∈ r2 ++ own := fun hq => List.mem_append_left _ hq
    have o1 : ∀ q ∈ own, q.1 ≠ LN := hoff.ne (.head _)
    have o2 : ∀ q ∈ own, q.1 ≠ L + 1 + 1 + 1 := hoff.ne (.tail _ (.head _))
    have o3n : ∀ q ∈ own, q.1 ≠ P := hoff.ne (.tail _ (.tail _ (.head _)))
    have ee : ((0 : Int) + (i : Int)).toNat = i := by omega
    refine pt_set heK B X T c3' n3 (fun q hq => ?_) F1 N1 fun o4' h1 tk1 c4' F2 N2 => ?_
    · rcases List.mem_cons.mp hq with rfl | hq
      · exact n2.symm
      · rcases List.mem_append.mp hq with hq | hq
        · exact (hne q hq).2.2
        · exact o2 q hq
    · refine pt_turn4 (nt := nt) (ka := ka) (kp := kp) (kl := kl) (r2 := r2 ++ own) he6 B X T cz c4' cv ((hs _ (by decide)).trans hm1) ((hs _ (by decide)).trans hm2) ((hs _ (by decide)).trans hm3) ((hs _ (by decide)).trans hm4) ((hs _ (by decide)).trans hm5) ((hs _ (by decide)).trans hm6)
        hIt hns htl hpt h01 hIv hIa hal ha hb h2 ⟨hT.1, fun j v q e1 e2 => ?_⟩ (hmem mT) (hmem mZ) (hmem mA) (hmem mV) (hmem m4) (fun q hq => ?_) n1 n2 n3 hIl ?_ (srt_of (line_sorted _ _)) ?_ F2 N2 fun lv' k' h3 tk3 m3 hI3 hk3 F3 N3 => ?_
      · obtain ⟨T', ta, tb, e3, e4⟩ := hT.2 j v q e1 e2
        exact ⟨T', ta, tb, e3, hmem e4⟩
      · rcases List.mem_append.mp hq with hq | hq
        · exact ⟨(hne q hq).1, (hne q hq).2.1⟩
        · exact ⟨o3n q hq, o1 q hq⟩
      · rw [line_length]; omega
      · rw [ee, hpd i hi, show (0 : Int) + (i : Int) = (i : Int) from Int.zero_add _]
      · rw [ee] at hI3
        exact InvEndN.intro F3 N3 ⟨lv', k', o4', _, rfl, hI3, c4', fun z hz => (hk3 z hz).trans (hs z hz)⟩ rfl (fun q hq => by
          exact sub_app (by (k_extra "mine:sub")) hq) (fun q hq => .tail _ (.tail _ (.tail _ (List.mem_append_right _ hq))))
  case done =>
    rintro m₁ news₁ h tk ⟨lv, kl, o3', vo', rfl, hIl, c3', hs⟩ F1 N1
    exact wpAny_execs_nil (kk lv kl o3' h tk m₁ hIl hs F1 N1)
end
end PartG8b
section PartG9
theorem base_G9 : True := by
  w_top off
  k_with_none
  k_with "mine:step" => ((first | (k_unfold; (try dsimp only)) | (k_end; wrow_close) | walk1 | (dsimp only; walk1) | (leave1; walk_say "STEP leave1"; try dsimp only) | fail "no step"))
  k_with "storeName" => ((k_here; k_dflt (first | (refine' storeI ?FW7 ?NW7 ?_ ?aW7 ?bW7; (case FW7 => k_asm); (case NW7 => k_asm); (case aW7 => rfl); (case bW7 => rfl); k_whole; intro hq9 tq9 tkq9 Fq9 Nq9; (try k_sweep)) | (refine' storeU ?FW7 ?NW7 ?_ ?aW7 ?bW7; (case FW7 => k_asm); (case NW7 => k_asm); (case aW7 => rfl); (case bW7 => rfl); k_whole; intro hq9 tkq9 Fq9 Nq9; (try k_sweep)))))
  k_with "mine:pj" => (((rename (_ ∧ _) => z); first | exact z.1 | exact Zs z.1 | exact Zl z.1 | exact Zg z.1 | exact z.2 | exact Zs z.2 | exact Zl z.2 | exact Zg z.2 | exact z.2.1 | exact Zs z.2.1 | exact Zl z.2.1 | exact Zg z.2.1 | exact z.2.2 | exact Zs z.2.2 | exact Zl z.2.2 | exact Zg z.2.2 | exact z.2.2.1 | exact Zs z.2.2.1 | exact Zl z.2.2.1 | exact Zg z.2.2.1 | exact z.2.2.2 | exact Zs z.2.2.2 | exact Zl z.2.2.2 | exact Zg z.2.2.2 | exact z.2.2.2.1 | exact Zs z.2.2.2.1 | exact Zl z.2.2.2.1 | exact Zg z.2.2.2.1 | exact z.2.2.2.2 | exact Zs z.2.2.2.2 | exact Zl z.2.2.2.2 | exact Zg z.2.2.2.2 | exact z.2.2.2.2.1 | exact Zs z.2.2.2.2.1 | exact Zl z.2.2.2.2.1 | exact Zg z.2.2.2.2.1 | exact z.2.2.2.2.2 | exact Zs z.2.2.2.2.2 | exact Zl z.2.2.2.2.2 | exact Zg z.2.2.2.2.2 | exact z.2.2.2.2.2.1 | exact Zs z.2.2.2.2.2.1 | exact Zl z.2.2.2.2.2.1 | exact Zg z.2.2.2.2.2.1 | exact z.2.2.2.2.2.2 | exact Zs z.2.2.2.2.2.2 | exact Zl z.2.2.2.2.2.2 | exact Zg z.2.2.2.2.2.2 | exact z.2.2.2.2.2.2.1 | exact Zs z.2.2.2.2.2.2.1 | exact Zl z.2.2.2.2.2.2.1 | exact Zg z.2.2.2.2.2.2.1 | exact z.2.2.2.2.2.2.2 | exact Zs z.2.2.2.2.2.2.2 | exact Zl z.2.2.2.2.2.2.2 | exact Zg z.2.2.2.2.2.2.2 | exact z.2.2.2.2.2.2.2.1 | exact Zs z.2.2.2.2.2.2.2.1 | exact Zl z.2.2.2.2.2.2.2.1 | exact Zg z.2.2.2.2.2.2.2.1 | exact z.2.2.2.2.2.2.2.2 | exact Zs z.2.2.2.2.2.2.2.2 | exact Zl z.2.2.2.2.2.2.2.2 | exact Zg z.2.2.2.2.2.2.2.2 | exact z.2.2.2.2.2.2.2.2.1 | exact Zs z.2.2.2.2.2.2.2.2.1 | exact Zl z.2.2.2.2.2.2.2.2.1 | exact Zg z.2.2.2.2.2.2.2.2.1 | exact z.2.2.2.2.2.2.2.2.2.1 | exact Zs z.2.2.2.2.2.2.2.2.2.1 | exact Zl z.2.2.2.2.2.2.2.2.2.1 | exact Zg z.2.2.2.2.2.2.2.2.2.1 | exact z.2.2.2.2.2.2.2.2.2.2.1 | exact Zs z.2.2.2.2.2.2.2.2.2.2.1 | exact Zl z.2.2.2.2.2.2.2.2.2.2.1 | exact Zg z.2.2.2.2.2.2.2.2.2.2.1 | exact z.2.2.2.2.2.2.2.2.2.2.2.1 | exact Zs z.2.2.2.2.2.2.2.2.2.2.2.1 | exact Zl z.2.2.2.2.2.2.2.2.2.2.2.1 | exact Zg z.2.2.2.2.2.2.2.2.2.2.2.1 | exact z.2.2.2.2.2.2.2.2.2.2.2.2.1 | exact Zs z.2.2.2.2.2.2.2.2.2.2.2.2.1 | exact Zl z.2.2.2.2.2.2.2.2.2.2.2.2.1 | exact Zg z.2.2.2.2.2.2.2.2.2.2.2.2.1 | exact z.2.2.2.2.2.2.2.2.2.2.2.2.2.1 | exact Zs z.2.2.2.2.2.2.2.2.2.2.2.2.2.1 | exact Zl z.2.2.2.2.2.2.2.2.2.2.2.2.2.1 | exact Zg z.2.2.2.2.2.2.2.2.2.2.2.2.2.1 | (clear z; (k_extra "mine:pj"))))
  k_with "mine:ne" => (first | (with_reducible assumption) | exact Ne.symm (by with_reducible assumption) | exact ne_lt (by with_reducible assumption) | exact ne_gt (by with_reducible assumption) | exact ne_lt (lt_led (by with_reducible assumption) (by k_mem)) | exact ne_gt (lt_led (by with_reducible assumption) (by k_mem)) | ((try dsimp only); with_reducible (k_extra "mine:pj")) | assumption | exact Nat.ne_of_lt (Nat.lt_succ_self _) | exact Nat.ne_of_gt (Nat.lt_succ_self _) | (walk_say "K_NE OMEGA"; refine neN ?_; (try dsimp only); omega))
  k_with "mine:nes" => (first | (refine And.intro ?_ ?_ <;> (k_extra "mine:nes")) | k_ne)
  k_with "mine:in" => (first | (with_reducible exact List.mem_cons_self) | (with_reducible assumption) | ((with_reducible refine List.mem_cons_of_mem _ ?_); (k_extra "mine:in")) | exact List.mem_cons_self | (refine List.mem_cons_of_mem _ ?_; (k_extra "mine:in")) | (refine List.mem_append_left _ ?_; (k_extra "mine:in")) | (refine List.mem_append_right _ ?_; (k_extra "mine:in")))
  k_with "mine:sub" => (first | (with_reducible exact sub_id) | (with_reducible exact sub_nil) | ((with_reducible refine sub_cons ?haW7 ?hbW7); (case haW7 => (k_extra "mine:in")); (case hbW7 => (k_extra "mine:sub"))) | ((with_reducible refine sub_both ?haW7 ?hbW7); (case haW7 => (k_extra "mine:sub")); (case hbW7 => (k_extra "mine:sub"))) | ((with_reducible refine sub_skip ?_); (k_extra "mine:sub")) | ((with_reducible refine sub_right ?_); (k_extra "mine:sub")) | ((with_reducible refine sub_left ?_); (k_extra "mine:sub")) | (simp only [List.nil_append, List.cons_append]; (k_extra "mine:sub")))
  k_with "mine:keys" => (first | (k_dflt (exact keys_of rfl rfl)) | (walk_say "K_KEYS LONG"; repeat (first | exact True.intro | refine And.intro ⟨_, _, rfl, rfl⟩ ?_)))
  k_with "mine:enter0" => ((refine' enter0 ?k1W7 ?k2W7 ?k3W7 ?k4W7 ?kKW7 ?k8W7 ?k6W7 ?k7W7 ?k9W7 ?kBW7 ?_ ?c2W7 ?c3W7 ?c4W7 ?c5W7; (case kKW7 => assumption); (case k1W7 => k_asm); (case k2W7 => k_asm); (case k3W7 => k_asm); (case k4W7 => k_asm); (case k6W7 => k_is); (case k7W7 => k_is); (case k8W7 => ktr_room); (case k9W7 => exact BindsTo.of_eq rfl); (case c5W7 => decide); (case kBW7 => exact locs rfl); (case c2W7 => exact rfl); (case c3W7 => exact rfl); (case c4W7 => exact rfl); k_whole; intro Lq9 hq9 tkq9 Fq9 Nq9 Bq9 Xq9 Tq9; (try dsimp only); (try k_fold)))
  k_with "mine:ret" => (((all_goals (try dsimp only)); (all_goals (try k_unfold)); (all_goals (try dsimp only))))
  k_with "mine:same" => (first | exact fun _ _ => rfl | exact fun _ _ _ => rfl | exact same_fg | exact same_fgN | (refine same_upY ?_; (k_extra "mine:same")) | (refine same_up (by rfl) ?_; (k_extra "mine:same")) | (refine same_upN (by rfl) ?_; (k_extra "mine:same")) | (intros; (try dsimp only [forget, up]); (repeat' split); all_goals first | rfl | (exfalso; subst_vars; (rename (List.contains _ _ = false) => hz9); (revert hz9); decide) | (exfalso; (rename (List.contains _ _ = false) => hz9); (rename (List.contains _ _ = true) => hz8); rw [hz9] at hz8; exact Bool.noConfusion hz8) | (exfalso; subst_vars; contradiction)))
  trivial
open PySem PySem.W PySem.Calls PySem.Spec PyProof.Rows
section
variable {w : World} {s : Shared} {h₀ : Heap} {L fa LN P : Addr} {m mg mb : Str → Option Value} {p : Program} {loose : List Str} {mean : ExcName → Option Value} {cd : Value} {oz : Obj}
    {st : List Stmt} {sc : Scope} {Q : Flow → Shared → Prop} {tz th : Tok} {pv lv : List Value} {ls : List Int} {prs : List (Int × Int)} {kp kl : Nat} {rest : List (Addr × Obj)}
theorem words_G9_1 : True := by
  k_with "call builtin:len" => ((k_here; (with_reducible show wpAny _ _ (call (Value.builtin "len") [Value.ref _]) _ _ _); k_dflt ((rename (@LE.le Nat _ (List.length pv) 2) => h29); (rename (List.length pv = List.length prs) => hl9); (rename News _ _ _ _ => kN9); (refine' kun_lenL (items := pv.toArray) (k := (prs.length : Int)) ?k1W7 ?k2W7 ?k3W7 ?_); (case k1W7 => exact ledger_list kN9 (by k_mem)); (case k2W7 => exact congrArg Int.ofNat (Eq.trans (by simp) hl9)); (case k3W7 => omega))))
  k_with "call ref" => ((k_here; k_dflt ( (show wpAny _ _ (call (Value.ref 91) _) _ _ _); (rename News _ _ _ _ => kN9); (rename IntsAre lv ls => hI9); (rename List.length ls < 100 => hn9); (rename Srt ls => hs9); (refine' use_spec ?FW7 ?NW7 (spec_bisl (vs := lv) (ns := ls) ?BW7 ?F1W7 ?XW7 ?TW7 ?hkW7 ?dW7 ?hlW7 hI9 hn9 hs9) ?_); (case FW7 => k_asm); (case NW7 => k_asm); (case BW7 => k_asm); (case F1W7 => k_asm); (case XW7 => k_asm); (case TW7 => k_asm); (case hkW7 => rfl); (case dW7 => ktr_room); (case hlW7 => exact ledger_list kN9 (by k_mem)); (intro vq9 hq9 tkq9 Fq9 Nq9 Eq9 qq9; (obtain ⟨tv, qq9⟩ := qq9); subst qq9); (try k_sweep))))
  k_with "call ref" => ((k_here; k_dflt ( (show wpAny _ _ (call (Value.ref 82) _) _ _ _); (rename News _ _ _ _ => kN9); (rename IntsAre lv ls => hI9); (rename List.length ls < 100 => hn9); (rename Srt ls => hs9); (refine' use_spec ?FW7 ?NW7 (spec_bisr2 (vs := lv) (ns := ls) ?BW7 ?F1W7 ?XW7 ?TW7 ?hkW7 ?dW7 ?hlW7 hI9 hn9 hs9) ?_); (case FW7 => k_asm); (case NW7 => k_asm); (case BW7 => k_asm); (case F1W7 => k_asm); (case XW7 => k_asm); (case TW7 => k_asm); (case hkW7 => rfl); (case dW7 => ktr_room); (case hlW7 => exact ledger_list kN9 (by k_mem)); (intro vq9 hq9 tkq9 Fq9 Nq9 Eq9 qq9; (obtain ⟨tv, qq9⟩ := qq9); subst qq9); (try k_sweep))))
  trivial
set_option maxHeartbeats 4000000 in
theorem segH3 (he : lawSeg 20 3 = some (st, sc))
    (B : Below callerA h₀ [] h₀) (X : (hd.heap_1 w.params).In h₀) (T : Top p loose mean mg mb h₀) (cz : oz.data = .cell (some (.int 3 tz)))
    (hm4 : m (Str.ofString "pairs") = some (.ref P)) (hm5 : m (Str.ofString "half") = some (.int 4 th)) (hm6 : m (Str.ofString "line") = some (.ref LN))
    (hIl : IntsAre lv ls) (hls : ls.length < 100) (hsr : Srt ls) (h2 : pv.length ≤ 2) (hpl : pv.length = prs.length)
    (hN1 : ((ls.countP (fun a => decide (a < 4)) : Nat) : Int) = ((4 : Int) ^ Int.toNat (prs.length : Int) + 2 ^ Int.toNat (prs.length : Int)).fdiv 2) (hN2 : ((ls.countP (fun a => decide (a ≤ 4)) : Nat) : Int) = 2 ^ Int.toNat 3 - ((4 : Int) ^ Int.toNat (prs.length : Int) - 2 ^ Int.toNat (prs.length : Int)).fdiv 2)
    (F : Fr h₀ L s.heap m) (N : News h₀ L s.heap ((LN, W.listOf lv.toArray kl) :: (P, W.listOf pv.toArray kp) :: (L + 1, oz) :: rest))
    (kk : ∀ (h' : Heap) (tk : Nat) (m' : Str → Option Value), Fr h₀ L h' m' → News h₀ L h' rest → Q (.ret (.bool true)) { s with heap := h', toks := tk }) :
    wpAny (model Challenge.rw_sn0075_01.row.prog w) (callerA.deeper (envOfC (Str.ofString "law") sc L fa cd)) (execs st (envOfC (Str.ofString "law") sc L fa cd)) Q (fun _ _ => False) s := by
  revert X; k_fill; intro X
  have he2 : lawSeg 20 3 = some ([_, _, _], _) := rfl
  rw [he] at he2
  cases he2
  have hml : m = fun z => if z = Str.ofString "pairs" then some (.ref P) else if z = Str.ofString "half" then some (.int 4 th) else if z = Str.ofString "line" then some (.ref LN) else m z := by
    funext z
    split
    · rename_i h; subst h; exact hm4
    · split
      · rename_i h; subst h; exact hm5
      · split
        · rename_i h; subst h; exact hm6
        · rfl
  rw [hml] at F
  have e8 : (0 : Int) ≤ (prs.length : Int) ∧ (prs.length : Int) ≤ 2 := by omega
  repeat (first | (dsimp only; walk1) | walk1)
  all_goals first
    | ((rename (¬ _ = _) => hz9); exact absurd hN1 hz9)
    | ((rename Fr _ _ _ _ => kF); (rename News _ _ _ _ => kN)
       have e := beq_iff_eq.mpr hN2
       rw [e]
       exact kk _ _ _ kF (fun q hq => kN q (.tail _ (.tail _ (.tail _ hq)))))
end
end PartG9
section PartG9b
theorem base_G9b : True := by
  w_top off
  k_with_none
  k_with "mine:step" => ((first | (k_unfold; (try dsimp only)) | (k_end; wrow_close) | walk1 | (dsimp only; walk1) | (leave1; walk_say "STEP leave1"; try dsimp only) | fail "no step"))
  k_with "storeName" => ((k_here; k_dflt (first | (refine' storeI ?FW7 ?NW7 ?_ ?aW7 ?bW7; (case FW7 => k_asm); (case NW7 => k_asm); (case aW7 => rfl); (case bW7 => rfl); k_whole; intro hq9 tq9 tkq9 Fq9 Nq9; (try k_sweep)) | (refine' storeU ?FW7 ?NW7 ?_ ?aW7 ?bW7; (case FW7 => k_asm); (case NW7 => k_asm); (case aW7 => rfl); (case bW7 => rfl); k_whole; intro hq9 tkq9 Fq9 Nq9; (try k_sweep)))))
  k_with "mine:pj" => (((rename (_ ∧ _) => z); first | exact z.1 | exact Zs z.1 | exact Zl z.1 | exact Zg z.1 | exact z.2 | exact Zs z.2 | exact Zl z.2 | exact Zg z.2 | exact z.2.1 | exact Zs z.2.1 | exact Zl z.2.1 | exact Zg z.2.1 | exact z.2.2 | exact Zs z.2.2 | exact Zl z.2.2 | exact Zg z.2.2 | exact z.2.2.1 | exact Zs z.2.2.1 | exact Zl z.2.2.1 | exact Zg z.2.2.1 | exact z.2.2.2 | exact Zs z.2.2.2 | exact Zl z.2.2.2 | exact Zg z.2.2.2 | exact z.2.2.2.1 | exact Zs z.2.2.2.1 | exact Zl z.2.2.2.1 | exact Zg z.2.2.2.1 | exact z.2.2.2.2 | exact Zs z.2.2.2.2 | exact Zl z.2.2.2.2 | exact Zg z.2.2.2.2 | exact z.2.2.2.2.1 | exact Zs z.2.2.2.2.1 | exact Zl z.2.2.2.2.1 | exact Zg z.2.2.2.2.1 | exact z.2.2.2.2.2 | exact Zs z.2.2.2.2.2 | exact Zl z.2.2.2.2.2 | exact Zg z.2.2.2.2.2 | exact z.2.2.2.2.2.1 | exact Zs z.2.2.2.2.2.1 | exact Zl z.2.2.2.2.2.1 | exact Zg z.2.2.2.2.2.1 | exact z.2.2.2.2.2.2 | exact Zs z.2.2.2.2.2.2 | exact Zl z.2.2.2.2.2.2 | exact Zg z.2.2.2.2.2.2 | exact z.2.2.2.2.2.2.1 | exact Zs z.2.2.2.2.2.2.1 | exact Zl z.2.2.2.2.2.2.1 | exact Zg z.2.2.2.2.2.2.1 | exact z.2.2.2.2.2.2.2 | exact Zs z.2.2.2.2.2.2.2 | exact Zl z.2.2.2.2.2.2.2 | exact Zg z.2.2.2.2.2.2.2 | exact z.2.2.2.2.2.2.2.1 | exact Zs z.2.2.2.2.2.2.2.1 | exact Zl z.2.2.2.2.2.2.2.1 | exact Zg z.2.2.2.2.2.2.2.1 | exact z.2.2.2.2.2.2.2.2 | exact Zs z.2.2.2.2.2.2.2.2 | exact Zl z.2.2.2.2.2.2.2.2 | exact Zg z.2.2.2.2.2.2.2.2 | exact z.2.2.2.2.2.2.2.2.1 | exact Zs z.2.2.2.2.2.2.2.2.1 | exact Zl z.2.2.2.2.2.2.2.2.1 | exact Zg z.2.2.2.2.2.2.2.2.1 | exact z.2.2.2.2.2.2.2.2.2.1 | exact Zs z.2.2.2.2.2.2.2.2.2.1 | exact Zl z.2.2.2.2.2.2.2.2.2.1 | exact Zg z.2.2.2.2.2.2.2.2.2.1 | exact z.2.2.2.2.2.2.2.2.2.2.1 | exact Zs z.2.2.2.2.2.2.2.2.2.2.1 | exact Zl z.2.2.2.2.2.2.2.2.2.2.1 | exact Zg z.2.2.2.2.2.2.2.2.2.2.1 | exact z.2.2.2.2.2.2.2.2.2.2.2.1 | exact Zs z.2.2.2.2.2.2.2.2.2.2.2.1 | exact Zl z.2.2.2.2.2.2.2.2.2.2.2.1 | exact Zg z.2.2.2.2.2.2.2.2.2.2.2.1 | exact z.2.2.2.2.2.2.2.2.2.2.2.2.1 | exact Zs z.2.2.2.2.2.2.2.2.2.2.2.2.1 | exact Zl z.2.2.2.2.2.2.2.2.2.2.2.2.1 | exact Zg z.2.2.2.2.2.2.2.2.2.2.2.2.1 | exact z.2.2.2.2.2.2.2.2.2.2.2.2.2.1 | exact Zs z.2.2.2.2.2.2.2.2.2.2.2.2.2.1 | exact Zl z.2.2.2.2.2.2.2.2.2.2.2.2.2.1 | exact Zg z.2.2.2.2.2.2.2.2.2.2.2.2.2.1 | (clear z; (k_extra "mine:pj"))))
  k_with "mine:ne" => (first | (with_reducible assumption) | exact Ne.symm (by with_reducible assumption) | exact ne_lt (by with_reducible assumption) | exact ne_gt (by with_reducible assumption) | exact ne_lt (lt_led (by with_reducible assumption) (by k_mem)) | exact ne_gt (lt_led (by with_reducible assumption) (by k_mem)) | ((try dsimp only); with_reducible (k_extra "mine:pj")) | assumption | exact Nat.ne_of_lt (Nat.lt_succ_self _) | exact Nat.ne_of_gt (Nat.lt_succ_self _) | (walk_say "K_NE OMEGA"; refine neN ?_; (try dsimp only); omega))
  k_with "mine:nes" => (first | (refine And.intro ?_ ?_ <;> (k_extra "mine:nes")) | k_ne)
  k_with "mine:in" => (first | (with_reducible exact List.mem_cons_self) | (with_reducible assumption) | ((with_reducible refine List.mem_cons_of_mem _ ?_); (k_extra "mine:in")) | exact List.mem_cons_self | (refine List.mem_cons_of_mem _ ?_; (k_extra "mine:in")) | (refine List.mem_append_left _ ?_; (k_extra "mine:in")) | (refine List.mem_append_right _ ?_; (k_extra "mine:in")))
  k_with "mine:sub" => (first | (with_reducible exact sub_id) | (with_reducible exact sub_nil) | ((with_reducible refine sub_cons ?haW7 ?hbW7); (case haW7 => (k_extra "mine:in")); (case hbW7 => (k_extra "mine:sub"))) | ((with_reducible refine sub_both ?haW7 ?hbW7); (case haW7 => (k_extra "mine:sub")); (case hbW7 => (k_extra "mine:sub"))) | ((with_reducible refine sub_skip ?_); (k_extra "mine:sub")) | ((with_reducible refine sub_right ?_); (k_extra "mine:sub")) | ((with_reducible refine sub_left ?_); (k_extra "mine:sub")) | (simp only [List.nil_append, List.cons_append]; (k_extra "mine:sub")))
  k_with "mine:keys" => (first | (k_dflt (exact keys_of rfl rfl)) | (walk_say "K_KEYS LONG"; repeat (first | exact True.intro | refine And.intro ⟨_, _, rfl, rfl⟩ ?_)))
  k_with "mine:enter0" => ((refine' enter0 ?k1W7 ?k2W7 ?k3W7 ?k4W7 ?kKW7 ?k8W7 ?k6W7 ?k7W7 ?k9W7 ?kBW7 ?_ ?c2W7 ?c3W7 ?c4W7 ?c5W7; (case kKW7 => assumption); (case k1W7 => k_asm); (case k2W7 => k_asm); (case k3W7 => k_asm); (case k4W7 => k_asm); (case k6W7 => k_is); (case k7W7 => k_is); (case k8W7 => ktr_room); (case k9W7 => exact BindsTo.of_eq rfl); (case c5W7 => decide); (case kBW7 => exact locs rfl); (case c2W7 => exact rfl); (case c3W7 => exact rfl); (case c4W7 => exact rfl); k_whole; intro Lq9 hq9 tkq9 Fq9 Nq9 Bq9 Xq9 Tq9; (try dsimp only); (try k_fold)))
  k_with "mine:ret" => (((all_goals (try dsimp only)); (all_goals (try k_unfold)); (all_goals (try dsimp only))))
  k_with "mine:same" => (first | exact fun _ _ => rfl | exact fun _ _ _ => rfl | exact same_fg | exact same_fgN | (refine same_upY ?_; (k_extra "mine:same")) | (refine same_up (by rfl) ?_; (k_extra "mine:same")) | (refine same_upN (by rfl) ?_; (k_extra "mine:same")) | (intros; (try dsimp only [forget, up]); (repeat' split); all_goals first | rfl | (exfalso; subst_vars; (rename (List.contains _ _ = false) => hz9); (revert hz9); decide) | (exfalso; (rename (List.contains _ _ = false) => hz9); (rename (List.contains _ _ = true) => hz8); rw [hz9] at hz8; exact Bool.noConfusion hz8) | (exfalso; subst_vars; contradiction)))
  trivial
open PySem PySem.W PySem.Calls PySem.Spec PyProof.Rows
section
variable {w : World} {s : Shared} {h₀ : Heap} {L fa LN P : Addr} {m mg mb : Str → Option Value} {p : Program} {loose : List Str} {mean : ExcName → Option Value} {cd : Value} {oz : Obj}
    {st : List Stmt} {sc : Scope} {Q : Flow → Shared → Prop} {tz th : Tok} {pv lv : List Value} {ls : List Int} {prs : List (Int × Int)} {kp kl : Nat} {rest : List (Addr × Obj)}
theorem words_G9b_1 : True := by
  k_with "call builtin:len" => ((k_here; (with_reducible show wpAny _ _ (call (Value.builtin "len") [Value.ref _]) _ _ _); k_dflt ((rename (@LE.le Nat _ (List.length pv) 2) => h29); (rename (List.length pv = List.length prs) => hl9); (rename News _ _ _ _ => kN9); (refine' kun_lenL (items := pv.toArray) (k := (prs.length : Int)) ?k1W7 ?k2W7 ?k3W7 ?_); (case k1W7 => exact ledger_list kN9 (by k_mem)); (case k2W7 => exact congrArg Int.ofNat (Eq.trans (by simp) hl9)); (case k3W7 => omega))))
  k_with "call ref" => ((k_here; k_dflt ( (show wpAny _ _ (call (Value.ref 91) _) _ _ _); (rename News _ _ _ _ => kN9); (rename IntsAre lv ls => hI9); (rename List.length ls < 100 => hn9); (rename Srt ls => hs9); (refine' use_spec ?FW7 ?NW7 (spec_bisl (vs := lv) (ns := ls) ?BW7 ?F1W7 ?XW7 ?TW7 ?hkW7 ?dW7 ?hlW7 hI9 hn9 hs9) ?_); (case FW7 => k_asm); (case NW7 => k_asm); (case BW7 => k_asm); (case F1W7 => k_asm); (case XW7 => k_asm); (case TW7 => k_asm); (case hkW7 => rfl); (case dW7 => ktr_room); (case hlW7 => exact ledger_list kN9 (by k_mem)); (intro vq9 hq9 tkq9 Fq9 Nq9 Eq9 qq9; (obtain ⟨tv, qq9⟩ := qq9); subst qq9); (try k_sweep))))
  k_with "call ref" => ((k_here; k_dflt ( (show wpAny _ _ (call (Value.ref 82) _) _ _ _); (rename News _ _ _ _ => kN9); (rename IntsAre lv ls => hI9); (rename List.length ls < 100 => hn9); (rename Srt ls => hs9); (refine' use_spec ?FW7 ?NW7 (spec_bisr2 (vs := lv) (ns := ls) ?BW7 ?F1W7 ?XW7 ?TW7 ?hkW7 ?dW7 ?hlW7 hI9 hn9 hs9) ?_); (case FW7 => k_asm); (case NW7 => k_asm); (case BW7 => k_asm); (case F1W7 => k_asm); (case XW7 => k_asm); (case TW7 => k_asm); (case hkW7 => rfl); (case dW7 => ktr_room); (case hlW7 => exact ledger_list kN9 (by k_mem)); (intro vq9 hq9 tkq9 Fq9 Nq9 Eq9 qq9; (obtain ⟨tv, qq9⟩ := qq9); subst qq9); (try k_sweep))))
  trivial
set_option maxHeartbeats 4000000 in
theorem segH4 (he : lawSeg 20 3 = some (st, sc))
    (B : Below callerA h₀ [] h₀) (X : (hd.heap_1 w.params).In h₀) (T : Top p loose mean mg mb h₀) (cz : oz.data = .cell (some (.int 4 tz)))
    (hm4 : m (Str.ofString "pairs") = some (.ref P)) (hm5 : m (Str.ofString "half") = some (.int 8 th)) (hm6 : m (Str.ofString "line") = some (.ref LN))
    (hIl : IntsAre lv ls) (hls : ls.length < 100) (hsr : Srt ls) (h2 : pv.length ≤ 2) (hpl : pv.length = prs.length)
    (hN1 : ((ls.countP (fun a => decide (a < 8)) : Nat) : Int) = ((4 : Int) ^ Int.toNat (prs.length : Int) + 2 ^ Int.toNat (prs.length : Int)).fdiv 2) (hN2 : ((ls.countP (fun a => decide (a ≤ 8)) : Nat) : Int) = 2 ^ Int.toNat 4 - ((4 : Int) ^ Int.toNat (prs.length : Int) - 2 ^ Int.toNat (prs.length : Int)).fdiv 2)
    (F : Fr h₀ L s.heap m) (N : News h₀ L s.heap ((LN, W.listOf lv.toArray kl) :: (P, W.listOf pv.toArray kp) :: (L + 1, oz) :: rest))
    (kk : ∀ (h' : Heap) (tk : Nat) (m' : Str → Option Value), Fr h₀ L h' m' → News h₀ L h' rest → Q (.ret (.bool true)) { s with heap := h', toks := tk }) :
    wpAny (model Challenge.rw_sn0075_01.row.prog w) (callerA.deeper (envOfC (Str.ofString "law") sc L fa cd)) (execs st (envOfC (Str.ofString "law") sc L fa cd)) Q (fun _ _ => False) s := by
  revert X; k_fill; intro X
  have he2 : lawSeg 20 3 = some ([_, _, _], _) := rfl
  rw [he] at he2
  cases he2
  have hml : m = fun z => if z = Str.ofString "pairs" then some (.ref P) else if z = Str.ofString "half" then some (.int 8 th) else if z = Str.ofString "line" then some (.ref LN) else m z := by
    funext z
    split
    · rename_i h; subst h; exact hm4
    · split
      · rename_i h; subst h; exact hm5
      · split
        · rename_i h; subst h; exact hm6
        · rfl
  rw [hml] at F
  have e8 : (0 : Int) ≤ (prs.length : Int) ∧ (prs.length : Int) ≤ 2 := by omega
  repeat (first | (dsimp only; walk1) | walk1)
  all_goals first
    | ((rename (¬ _ = _) => hz9); exact absurd hN1 hz9)
    | ((rename Fr _ _ _ _ => kF); (rename News _ _ _ _ => kN)
       have e := beq_iff_eq.mpr hN2
       rw [e]
       exact kk _ _ _ kF (fun q hq => kN q (.tail _ (.tail _ (.tail _ hq)))))
end
end PartG9b
section PartQ7
open PySem PySem.W PySem.Calls PySem.Spec PyProof.Rows
/-- which tables a term is made of -/
noncomputable def quad : Nat → Nat → Nat
  | 0, 1 => 4
  | 1, 0 => 4
  | 0, 2 => 5
  | 2, 0 => 5
  | 0, 3 => 6
  | 3, 0 => 6
  | 1, 2 => 7
  | 2, 1 => 7
  | 1, 3 => 8
  | 3, 1 => 8
  | _, _ => 9
noncomputable def quad3 : Nat → Nat → Nat
  | 0, 1 => 3
  | 1, 0 => 3
  | 0, 2 => 4
  | 2, 0 => 4
  | _, _ => 5
noncomputable def codeT (qd : Nat → Nat → Nat) (j a b : Nat) : Nat :=
  if a = b then (if j = 0 then 2 ^ a else if j = 1 then 2 ^ a else 0)
  else if j = 0 then 2 ^ qd a b else if j = 1 then 2 ^ a ^^^ 2 ^ b ^^^ 2 ^ qd a b else if j = 2 then 2 ^ b ^^^ 2 ^ qd a b else if j = 3 then 2 ^ a ^^^ 2 ^ qd a b else 2 ^ a ^^^ 2 ^ b
theorem code3 : ∀ j, j < 5 → ∀ a, a < 3 → ∀ b, b < 3 → termV lts3 255 (j, a, b) = ((tab3 (codeT quad3 j a b) : Nat) : Int) ∧ codeT quad3 j a b < 2 ^ 6 := by decide +kernel
theorem code4 : ∀ j, j < 5 → ∀ a, a < 4 → ∀ b, b < 4 → termV lts4 65535 (j, a, b) = ((tab4 (codeT quad j a b) : Nat) : Int) ∧ codeT quad j a b < 2 ^ 10 := by decide +kernel
theorem span_of {l : List Nat} {lts : List Int} {full : Int} {k : Nat} {q0 q1 q2 q3 : Nat × Nat × Nat} {c0 c1 c2 c3 : Nat} (h0 : termV lts full q0 = ((tabL l c0 : Nat) : Int) ∧ c0 < 2 ^ k) (h1 : termV lts full q1 = ((tabL l c1 : Nat) : Int) ∧ c1 < 2 ^ k) (h2 : termV lts full q2 = ((tabL l c2 : Nat) : Int) ∧ c2 < 2 ^ k) (h3 : termV lts full q3 = ((tabL l c3 : Nat) : Int) ∧ c3 < 2 ^ k) :
    ∃ c, c < 2 ^ k ∧ tabV lts full q0 q1 q2 q3 = ((tabL l c : Nat) : Int) := by
  refine ⟨c0 ^^^ (c1 ^^^ (c2 ^^^ c3)), Nat.xor_lt_two_pow h0.2 (Nat.xor_lt_two_pow h1.2 (Nat.xor_lt_two_pow h2.2 h3.2)), ?_⟩
  unfold tabV
  rw [h0.1, h1.1, h2.1, h3.1, show (0 : Int) = ((0 : Nat) : Int) from rfl, bitXor_nat, bitXor_nat, bitXor_nat, bitXor_nat, tabL_xor, tabL_xor, tabL_xor, Nat.xor_zero]
theorem turns_nat {v P i : Nat} : ∀ (prs : List (Nat × Nat)), (∀ q ∈ prs, q.1 < P ∧ q.2 < P) → turnsI (List.map (bitF v) (rangeKs 0 P)) (i : Int) (prs.map cP) = ((turnsN v i prs : Nat) : Int) := by
  have key : ∀ (prs : List (Nat × Nat)) (t : Nat), (∀ q ∈ prs, q.1 < P ∧ q.2 < P) → (prs.map cP).foldl (fun t q => Builtin.bitXor t (Builtin.bitAnd (toldI (List.map (bitF v) (rangeKs 0 P)) (i : Int) q.1) (toldI (List.map (bitF v) (rangeKs 0 P)) (i : Int) q.2))) (t : Int) = ((prs.foldl (fun t q => t ^^^ (toldN v i q.1 &&& toldN v i q.2)) t : Nat) : Int) := by
    intro prs
    induction prs with
    | nil => intro t _; rfl
    | cons q r ih =>
      intro t h
      have hq := h q (.head _)
      rw [List.map_cons, List.foldl_cons, List.foldl_cons, told_nat hq.1, told_nat hq.2, bitAnd_nat, bitXor_nat]
      exact ih _ (fun q hq => h q (.tail _ hq))
  exact fun prs h => key prs 0 h
theorem told_filter {v P i : Nat} {al : List Nat} (h : ∀ y ∈ al, y < P) : ((al.map cI).filter fun x => decide (toldI (List.map (bitF v) (rangeKs 0 P)) (i : Int) x = 1)) = (al.filter fun y => toldN v i y == 1).map cI := by
  rw [List.filter_map]
  congr 1
  refine List.filter_congr fun y hy => ?_
  show decide (toldI _ _ ((y : Nat) : Int) = 1) = _
  rw [told_nat (h y hy), dec_one]
theorem any_filter {q : Nat → Bool} : ∀ (al : List Nat), al.any q = false ↔ al.filter q = []
  | [] => by simp
  | y :: r => by
    rw [List.any_cons, Bool.or_eq_false_iff, any_filter r]
    cases e : q y with
    | true => simp [e]
    | false => simp [e]
theorem pair_facts {pop : Nat → Nat} {half sz v : Nat} {start : List Nat} {tots : List (Nat × Nat)} (h : chkN pop half sz v start tots = true) :
    tots.all (okN pop v half (pairN v sz start [] []).1 (pairN v sz start [] []).2) = true ∧ tots.countP (fun q => Nat.blt (pop (v ^^^ q.2)) half) = (4 ^ (pairN v sz start [] []).1.length + 2 ^ (pairN v sz start [] []).1.length) / 2 ∧
    tots.countP (fun q => Nat.ble (pop (v ^^^ q.2)) half) + (4 ^ (pairN v sz start [] []).1.length - 2 ^ (pairN v sz start [] []).1.length) / 2 = 2 * half ∧ (pairN v sz start [] []).1.length ≤ 2 ∧
    (∀ q ∈ (pairN v sz start [] []).1, q.1 < 2 * half ∧ q.2 < 2 * half) ∧ ∀ y ∈ (pairN v sz start [] []).2, y < 2 * half := by
  unfold chkN at h
  simp only [Bool.and_eq_true, beq_iff_eq] at h
  obtain ⟨h1, h2, h3, h4, h5, h6⟩ := h
  refine ⟨h1, h2, h3, Nat.le_of_ble_eq_true h4, fun q hq => ?_, fun y hy => ?_⟩
  · have h7 := List.all_eq_true.mp h5 q hq
    rw [Bool.and_eq_true] at h7
    exact ⟨Nat.le_of_ble_eq_true h7.1, Nat.le_of_ble_eq_true h7.2⟩
  · exact Nat.le_of_ble_eq_true (List.all_eq_true.mp h6 y hy)
theorem half_pow {half sz len : Nat} (hs : half = 2 ^ (sz - 1)) (h1 : 3 ≤ sz) (h2 : len ≤ 2) : half / 2 ^ len = 2 ^ Int.toNat ((sz : Int) - 1 - (len : Int)) := by
  rw [hs, Nat.pow_div (by omega) (by decide)]
  congr 1
  omega
theorem due_nat {pop : Nat → Nat} {v P half sz i t : Nat} {prs : List (Nat × Nat)} {al : List Nat} (hs : half = 2 ^ (sz - 1)) (h1 : 3 ≤ sz) (h2 : prs.length ≤ 2) (hp : ∀ q ∈ prs, q.1 < P ∧ q.2 < P) (ha : ∀ y ∈ al, y < P) (ok : okN pop v half prs al (i, t) = true) :
    ((pop (v ^^^ t) : Nat) : Int) = dueI (List.map (bitF v) (rangeKs 0 P)) (half : Int) (sz : Int) (prs.map cP) (al.map cI) (i : Int) := by
  unfold okN at ok
  unfold dueI
  rw [told_filter ha]
  cases e : al.any (fun y => toldN v i y == 1) with
  | true =>
    have hn : ¬ (al.filter fun y => toldN v i y == 1).map cI = [] := by
      rw [List.map_eq_nil_iff, ← any_filter, e]
      decide
    rw [if_neg hn]
    simp only [e, cond_true, beq_iff_eq] at ok
    rw [ok]
  | false =>
    have hn : (al.filter fun y => toldN v i y == 1).map cI = [] := by
      rw [List.map_eq_nil_iff, ← any_filter, e]
    rw [if_pos hn, turns_nat prs hp, List.length_map]
    simp only [e, cond_false, beq_iff_eq] at ok
    rw [half_pow hs h1 h2] at ok
    have e2 : ((2 : Int) ^ Int.toNat ((sz : Int) - 1 - (prs.length : Int))) = ((2 ^ Int.toNat ((sz : Int) - 1 - (prs.length : Int)) : Nat) : Int) := by rw [Int.natCast_pow]; rfl
    rw [e2]
    generalize 2 ^ Int.toNat ((sz : Int) - 1 - (prs.length : Int)) = h' at *
    generalize turnsN v i prs = T at *
    have e3 : ((pop (v ^^^ t) : Nat) : Int) + (h' : Int) = (half : Int) + (T : Int) * (2 * (h' : Int)) := by
      have := congrArg (fun n : Nat => (n : Int)) ok
      simpa [Int.natCast_add, Int.natCast_mul] using this
    rw [Int.sub_mul, Int.one_mul, Int.mul_comm 2 (T : Int), Int.mul_assoc]
    omega
theorem blt_dec (k n : Nat) : Nat.blt k n = decide ((k : Int) < (n : Int)) := by
  rw [Bool.eq_iff_iff, decide_eq_true_iff]
  constructor
  · intro h; have := Nat.le_of_ble_eq_true h; omega
  · intro h; exact Nat.ble_eq_true_of_le (by omega)
theorem ble_dec (k n : Nat) : Nat.ble k n = decide ((k : Int) ≤ (n : Int)) := by
  rw [Bool.eq_iff_iff, decide_eq_true_iff]
  constructor
  · intro h; have := Nat.le_of_ble_eq_true h; omega
  · intro h; exact Nat.ble_eq_true_of_le (by omega)
theorem near_nat {len c : Nat} (h : c = (4 ^ len + 2 ^ len) / 2) : (c : Int) = ((4 : Int) ^ Int.toNat (len : Int) + 2 ^ Int.toNat (len : Int)).fdiv 2 := by
  subst h
  rw [Int.toNat_natCast, show ((4 : Int) ^ len + 2 ^ len) = ((4 ^ len + 2 ^ len : Nat) : Int) by rw [Int.natCast_add, Int.natCast_pow, Int.natCast_pow]; rfl, show (2 : Int) = ((2 : Nat) : Int) from rfl, fdiv_nat _ _ (by decide)]
theorem far_nat {len c P sz : Nat} (hP : P = 2 ^ sz) (h2 : len ≤ 2) (h : c + (4 ^ len - 2 ^ len) / 2 = P) : (c : Int) = (2 : Int) ^ Int.toNat (sz : Int) - ((4 : Int) ^ Int.toNat (len : Int) - 2 ^ Int.toNat (len : Int)).fdiv 2 := by
  rw [Int.toNat_natCast, Int.toNat_natCast, show ((2 : Int) ^ sz) = ((2 ^ sz : Nat) : Int) by rw [Int.natCast_pow]; rfl, ← hP, ← h]
  have hl : len = 0 ∨ len = 1 ∨ len = 2 := by omega
  rcases hl with rfl | rfl | rfl
  · show (c : Int) = ((c + 0 : Nat) : Int) - (0 : Int); omega
  · show (c : Int) = ((c + 1 : Nat) : Int) - (1 : Int); omega
  · show (c : Int) = ((c + 6 : Nat) : Int) - (6 : Int); omega
theorem cast_lt {y n : Nat} (h : y < n) : 0 ≤ ((y : Nat) : Int) ∧ ((y : Nat) : Int) < (n : Int) := ⟨Int.natCast_nonneg _, Int.ofNat_lt.mpr h⟩
/-- the plain law -/
theorem plainG {pop : Nat → Nat} {P half sz v : Nat} {start : List Nat} {tots : List (Nat × Nat)} {lts : List Int} {prs : List (Int × Int)} {al : List Int} (hs : half = 2 ^ (sz - 1)) (hs3 : 3 ≤ sz) (hP : P = 2 ^ sz) (hP2 : 2 * half = P) (hst : ∀ x ∈ start, x < 2 ^ sz)
    (htots : (List.range P).map (fun i => (totOf lts).getD i 0) = tots.map (fun q => (q.2 : Int))) (hat : ∀ i, i < P → ∃ q ∈ tots, q.1 = i ∧ (totOf lts).getD i 0 = (q.2 : Int)) (hlt : ∀ q ∈ tots, q.2 < 2 ^ P)
    (hpi : ∀ x, x < 2 ^ P → popc P x = pop x) (hv : v < 2 ^ P) (hc : chkN pop half sz v start tots = true) (hR : pairF (List.map (bitF v) (rangeKs 0 P)) sz (start.map cI) [] [] = (prs, al)) :
    (∀ x ∈ al, 0 ≤ x ∧ x < (P : Int)) ∧ (∀ q ∈ prs, (0 ≤ q.1 ∧ q.1 < (P : Int)) ∧ (0 ≤ q.2 ∧ q.2 < (P : Int))) ∧ prs.length ≤ 2 ∧
    (∀ i : Nat, i < P → priceI P (List.map (bitF v) (rangeKs 0 P)) ((totOf lts).getD i 0) = dueI (List.map (bitF v) (rangeKs 0 P)) (half : Int) (sz : Int) prs al (i : Int)) ∧
    (((lineF (fun i => priceI P (List.map (bitF v) (rangeKs 0 P)) ((totOf lts).getD i 0)) P).countP (fun a => decide (a < (half : Int))) : Nat) : Int) = ((4 : Int) ^ Int.toNat (prs.length : Int) + 2 ^ Int.toNat (prs.length : Int)).fdiv 2 ∧
    (((lineF (fun i => priceI P (List.map (bitF v) (rangeKs 0 P)) ((totOf lts).getD i 0)) P).countP (fun a => decide (a ≤ (half : Int))) : Nat) : Int) = 2 ^ Int.toNat (sz : Int) - ((4 : Int) ^ Int.toNat (prs.length : Int) - 2 ^ Int.toNat (prs.length : Int)).fdiv 2 := by
  have hn := pair_nat (v := v) (sz := sz) sz start [] [] hst
  rw [← hP] at hn
  have hn2 := hn.symm.trans hR
  obtain ⟨h1, h2, h3, h4, h5, h6⟩ := pair_facts hc
  rw [hP2] at h5 h6 h3
  generalize (pairN v sz start [] []).1 = prN at *
  generalize (pairN v sz start [] []).2 = alN at *
  obtain ⟨rfl, rfl⟩ := Prod.mk.inj hn2
  clear hn hn2 hR hc
  have hpop : ∀ t : Nat, t < 2 ^ P → priceI P (List.map (bitF v) (rangeKs 0 P)) (t : Int) = ((pop (v ^^^ t) : Nat) : Int) := fun t ht => by
    rw [price_nat]
    exact congrArg (fun n : Nat => (n : Int)) (hpi _ (Nat.xor_lt_two_pow hv ht))
  have hpt : (List.range P).map (fun i => priceI P (List.map (bitF v) (rangeKs 0 P)) ((totOf lts).getD i 0)) = tots.map (fun q => ((pop (v ^^^ q.2) : Nat) : Int)) := by
    have h := congrArg (List.map (priceI P (List.map (bitF v) (rangeKs 0 P)))) htots
    rw [List.map_map, List.map_map] at h
    exact h.trans (List.map_congr_left fun q hq => hpop q.2 (hlt q hq))
  have hok : ∀ q ∈ tots, okN pop v half prN alN q = true := List.all_eq_true.mp h1
  refine ⟨fun x hx => ?_, fun q hq => ?_, by rw [List.length_map]; exact h4, fun i hi => ?_, ?_, ?_⟩
  · obtain ⟨y, hy, rfl⟩ := List.mem_map.mp hx
    exact cast_lt (h6 y hy)
  · obtain ⟨y, hy, rfl⟩ := List.mem_map.mp hq
    exact ⟨cast_lt (h5 y hy).1, cast_lt (h5 y hy).2⟩
  · obtain ⟨q, hq, rfl, e⟩ := hat i hi
    rw [e]
    exact (hpop q.2 (hlt q hq)).trans (due_nat hs hs3 h4 h5 h6 (hok q hq))
  · rw [line_countP, hpt, List.countP_map, List.length_map]
    refine near_nat (Eq.trans ?_ h2)
    exact List.countP_congr fun q _ => by
      show decide (((pop (v ^^^ q.2) : Nat) : Int) < (half : Int)) = true ↔ _
      rw [← blt_dec]
  · rw [line_countP, hpt, List.countP_map, List.length_map]
    refine far_nat (sz := sz) (P := P) hP h4 (Eq.trans ?_ h3)
    congr 1
    exact List.countP_congr fun q _ => by
      show decide (((pop (v ^^^ q.2) : Nat) : Int) ≤ (half : Int)) = true ↔ _
      rw [← ble_dec]
theorem at_of {P : Nat} {f : Nat → Int} {tots : List (Nat × Nat)} (h : ∀ i, i < P → f i = ((tots.getD i (0, 0)).2 : Int) ∧ (tots.getD i (0, 0)).1 = i ∧ i < tots.length) : ∀ i, i < P → ∃ q ∈ tots, q.1 = i ∧ f i = (q.2 : Int) := fun i hi => by
  obtain ⟨h1, h2, h3⟩ := h i hi
  refine ⟨_, ?_, h2, h1⟩
  rw [List.getD_eq_getElem?_getD, List.getElem?_eq_getElem h3]
  exact List.getElem_mem h3
theorem plain3 {pop : Nat → Nat} {v : Nat} {prs : List (Int × Int)} {al : List Int} (hpi : ∀ x, x < 2 ^ 8 → popc 8 x = pop x) (hv : v < 2 ^ 8) (hc : chkN pop 4 3 v [1, 2, 4] tots3 = true) (hR : pairF (List.map (bitF v) (rangeKs 0 8)) 3 [1, 2, 4] [] [] = (prs, al)) :
    (∀ x ∈ al, 0 ≤ x ∧ x < (8 : Int)) ∧ (∀ q ∈ prs, (0 ≤ q.1 ∧ q.1 < (8 : Int)) ∧ (0 ≤ q.2 ∧ q.2 < (8 : Int))) ∧ prs.length ≤ 2 ∧
    (∀ i : Nat, i < 8 → priceI 8 (List.map (bitF v) (rangeKs 0 8)) ((totOf lts3).getD i 0) = dueI (List.map (bitF v) (rangeKs 0 8)) 4 3 prs al (i : Int)) ∧
    (((lineF (fun i => priceI 8 (List.map (bitF v) (rangeKs 0 8)) ((totOf lts3).getD i 0)) 8).countP (fun a => decide (a < 4)) : Nat) : Int) = ((4 : Int) ^ Int.toNat (prs.length : Int) + 2 ^ Int.toNat (prs.length : Int)).fdiv 2 ∧
    (((lineF (fun i => priceI 8 (List.map (bitF v) (rangeKs 0 8)) ((totOf lts3).getD i 0)) 8).countP (fun a => decide (a ≤ 4)) : Nat) : Int) = 2 ^ Int.toNat 3 - ((4 : Int) ^ Int.toNat (prs.length : Int) - 2 ^ Int.toNat (prs.length : Int)).fdiv 2 :=
  plainG (P := 8) (half := 4) (sz := 3) (start := [1, 2, 4]) (tots := tots3) (lts := lts3) rfl (by decide) rfl rfl (by decide) (by decide +kernel) (at_of (by decide +kernel)) (by decide +kernel) hpi hv hc hR
theorem plain4 {pop : Nat → Nat} {v : Nat} {prs : List (Int × Int)} {al : List Int} (hpi : ∀ x, x < 2 ^ 16 → popc 16 x = pop x) (hv : v < 2 ^ 16) (hc : chkN pop 8 4 v [1, 2, 4, 8] tots4 = true) (hR : pairF (List.map (bitF v) (rangeKs 0 16)) 4 [1, 2, 4, 8] [] [] = (prs, al)) :
    (∀ x ∈ al, 0 ≤ x ∧ x < (16 : Int)) ∧ (∀ q ∈ prs, (0 ≤ q.1 ∧ q.1 < (16 : Int)) ∧ (0 ≤ q.2 ∧ q.2 < (16 : Int))) ∧ prs.length ≤ 2 ∧
    (∀ i : Nat, i < 16 → priceI 16 (List.map (bitF v) (rangeKs 0 16)) ((totOf lts4).getD i 0) = dueI (List.map (bitF v) (rangeKs 0 16)) 8 4 prs al (i : Int)) ∧
    (((lineF (fun i => priceI 16 (List.map (bitF v) (rangeKs 0 16)) ((totOf lts4).getD i 0)) 16).countP (fun a => decide (a < 8)) : Nat) : Int) = ((4 : Int) ^ Int.toNat (prs.length : Int) + 2 ^ Int.toNat (prs.length : Int)).fdiv 2 ∧
    (((lineF (fun i => priceI 16 (List.map (bitF v) (rangeKs 0 16)) ((totOf lts4).getD i 0)) 16).countP (fun a => decide (a ≤ 8)) : Nat) : Int) = 2 ^ Int.toNat 4 - ((4 : Int) ^ Int.toNat (prs.length : Int) - 2 ^ Int.toNat (prs.length : Int)).fdiv 2 :=
  plainG (P := 16) (half := 8) (sz := 4) (start := [1, 2, 4, 8]) (tots := tots4) (lts := lts4) rfl (by decide) rfl rfl (by decide) (by decide +kernel) (at_of (by decide +kernel)) (by decide +kernel) hpi hv hc hR
end PartQ7
section PartGt
theorem base_Gt : True := by
  w_top off
  k_with_none
  k_with "mine:step" => ((first | (k_unfold; (try dsimp only)) | (k_end; wrow_close) | walk1 | (dsimp only; walk1) | (leave1; walk_say "STEP leave1"; try dsimp only) | fail "no step"))
  k_with "storeName" => ((k_here; k_dflt (first | (refine' storeI ?FW7 ?NW7 ?_ ?aW7 ?bW7; (case FW7 => k_asm); (case NW7 => k_asm); (case aW7 => rfl); (case bW7 => rfl); k_whole; intro hq9 tq9 tkq9 Fq9 Nq9; (try k_sweep)) | (refine' storeU ?FW7 ?NW7 ?_ ?aW7 ?bW7; (case FW7 => k_asm); (case NW7 => k_asm); (case aW7 => rfl); (case bW7 => rfl); k_whole; intro hq9 tkq9 Fq9 Nq9; (try k_sweep)))))
  k_with "mine:pj" => (((rename (_ ∧ _) => z); first | exact z.1 | exact Zs z.1 | exact Zl z.1 | exact Zg z.1 | exact z.2 | exact Zs z.2 | exact Zl z.2 | exact Zg z.2 | exact z.2.1 | exact Zs z.2.1 | exact Zl z.2.1 | exact Zg z.2.1 | exact z.2.2 | exact Zs z.2.2 | exact Zl z.2.2 | exact Zg z.2.2 | exact z.2.2.1 | exact Zs z.2.2.1 | exact Zl z.2.2.1 | exact Zg z.2.2.1 | exact z.2.2.2 | exact Zs z.2.2.2 | exact Zl z.2.2.2 | exact Zg z.2.2.2 | exact z.2.2.2.1 | exact Zs z.2.2.2.1 | exact Zl z.2.2.2.1 | exact Zg z.2.2.2.1 | exact z.2.2.2.2 | exact Zs z.2.2.2.2 | exact Zl z.2.2.2.2 | exact Zg z.2.2.2.2 | exact z.2.2.2.2.1 | exact Zs z.2.2.2.2.1 | exact Zl z.2.2.2.2.1 | exact Zg z.2.2.2.2.1 | exact z.2.2.2.2.2 | exact Zs z.2.2.2.2.2 | exact Zl z.2.2.2.2.2 | exact Zg z.2.2.2.2.2 | exact z.2.2.2.2.2.1 | exact Zs z.2.2.2.2.2.1 | exact Zl z.2.2.2.2.2.1 | exact Zg z.2.2.2.2.2.1 | exact z.2.2.2.2.2.2 | exact Zs z.2.2.2.2.2.2 | exact Zl z.2.2.2.2.2.2 | exact Zg z.2.2.2.2.2.2 | exact z.2.2.2.2.2.2.1 | exact Zs z.2.2.2.2.2.2.1 | exact Zl z.2.2.2.2.2.2.1 | exact Zg z.2.2.2.2.2.2.1 | exact z.2.2.2.2.2.2.2 | exact Zs z.2.2.2.2.2.2.2 | exact Zl z.2.2.2.2.2.2.2 | exact Zg z.2.2.2.2.2.2.2 | exact z.2.2.2.2.2.2.2.1 | exact Zs z.2.2.2.2.2.2.2.1 | exact Zl z.2.2.2.2.2.2.2.1 | exact Zg z.2.2.2.2.2.2.2.1 | exact z.2.2.2.2.2.2.2.2 | exact Zs z.2.2.2.2.2.2.2.2 | exact Zl z.2.2.2.2.2.2.2.2 | exact Zg z.2.2.2.2.2.2.2.2 | exact z.2.2.2.2.2.2.2.2.1 | exact Zs z.2.2.2.2.2.2.2.2.1 | exact Zl z.2.2.2.2.2.2.2.2.1 | exact Zg z.2.2.2.2.2.2.2.2.1 | exact z.2.2.2.2.2.2.2.2.2.1 | exact Zs z.2.2.2.2.2.2.2.2.2.1 | exact Zl z.2.2.2.2.2.2.2.2.2.1 | exact Zg z.2.2.2.2.2.2.2.2.2.1 | exact z.2.2.2.2.2.2.2.2.2.2.1 | exact Zs z.2.2.2.2.2.2.2.2.2.2.1 | exact Zl z.2.2.2.2.2.2.2.2.2.2.1 | exact Zg z.2.2.2.2.2.2.2.2.2.2.1 | exact z.2.2.2.2.2.2.2.2.2.2.2.1 | exact Zs z.2.2.2.2.2.2.2.2.2.2.2.1 | exact Zl z.2.2.2.2.2.2.2.2.2.2.2.1 | exact Zg z.2.2.2.2.2.2.2.2.2.2.2.1 | exact z.2.2.2.2.2.2.2.2.2.2.2.2.1 | exact Zs z.2.2.2.2.2.2.2.2.2.2.2.2.1 | exact Zl z.2.2.2.2.2.2.2.2.2.2.2.2.1 | exact Zg z.2.2.2.2.2.2.2.2.2.2.2.2.1 | exact z.2.2.2.2.2.2.2.2.2.2.2.2.2.1 | exact Zs z.2.2.2.2.2.2.2.2.2.2.2.2.2.1 | exact Zl z.2.2.2.2.2.2.2.2.2.2.2.2.2.1 | exact Zg z.2.2.2.2.2.2.2.2.2.2.2.2.2.1 | (clear z; (k_extra "mine:pj"))))
  k_with "mine:ne" => (first | (with_reducible assumption) | exact Ne.symm (by with_reducible assumption) | exact ne_lt (by with_reducible assumption) | exact ne_gt (by with_reducible assumption) | exact ne_lt (lt_led (by with_reducible assumption) (by k_mem)) | exact ne_gt (lt_led (by with_reducible assumption) (by k_mem)) | ((try dsimp only); with_reducible (k_extra "mine:pj")) | assumption | exact Nat.ne_of_lt (Nat.lt_succ_self _) | exact Nat.ne_of_gt (Nat.lt_succ_self _) | (walk_say "K_NE OMEGA"; refine neN ?_; (try dsimp only); omega))
  k_with "mine:nes" => (first | (refine And.intro ?_ ?_ <;> (k_extra "mine:nes")) | k_ne)
  k_with "mine:in" => (first | (with_reducible exact List.mem_cons_self) | (with_reducible assumption) | ((with_reducible refine List.mem_cons_of_mem _ ?_); (k_extra "mine:in")) | exact List.mem_cons_self | (refine List.mem_cons_of_mem _ ?_; (k_extra "mine:in")) | (refine List.mem_append_left _ ?_; (k_extra "mine:in")) | (refine List.mem_append_right _ ?_; (k_extra "mine:in")))
  k_with "mine:sub" => (first | (with_reducible exact sub_id) | (with_reducible exact sub_nil) | ((with_reducible refine sub_cons ?haW7 ?hbW7); (case haW7 => (k_extra "mine:in")); (case hbW7 => (k_extra "mine:sub"))) | ((with_reducible refine sub_both ?haW7 ?hbW7); (case haW7 => (k_extra "mine:sub")); (case hbW7 => (k_extra "mine:sub"))) | ((with_reducible refine sub_skip ?_); (k_extra "mine:sub")) | ((with_reducible refine sub_right ?_); (k_extra "mine:sub")) | ((with_reducible refine sub_left ?_); (k_extra "mine:sub")) | (simp only [List.nil_append, List.cons_append]; (k_extra "mine:sub")))
  k_with "mine:keys" => (first | (k_dflt (exact keys_of rfl rfl)) | (walk_say "K_KEYS LONG"; repeat (first | exact True.intro | refine And.intro ⟨_, _, rfl, rfl⟩ ?_)))
  k_with "mine:enter0" => ((refine' enter0 ?k1W7 ?k2W7 ?k3W7 ?k4W7 ?kKW7 ?k8W7 ?k6W7 ?k7W7 ?k9W7 ?kBW7 ?_ ?c2W7 ?c3W7 ?c4W7 ?c5W7; (case kKW7 => assumption); (case k1W7 => k_asm); (case k2W7 => k_asm); (case k3W7 => k_asm); (case k4W7 => k_asm); (case k6W7 => k_is); (case k7W7 => k_is); (case k8W7 => ktr_room); (case k9W7 => exact BindsTo.of_eq rfl); (case c5W7 => decide); (case kBW7 => exact locs rfl); (case c2W7 => exact rfl); (case c3W7 => exact rfl); (case c4W7 => exact rfl); k_whole; intro Lq9 hq9 tkq9 Fq9 Nq9 Bq9 Xq9 Tq9; (try dsimp only); (try k_fold)))
  k_with "mine:ret" => (((all_goals (try dsimp only)); (all_goals (try k_unfold)); (all_goals (try dsimp only))))
  k_with "mine:same" => (first | exact fun _ _ => rfl | exact fun _ _ _ => rfl | exact same_fg | exact same_fgN | (refine same_upY ?_; (k_extra "mine:same")) | (refine same_up (by rfl) ?_; (k_extra "mine:same")) | (refine same_upN (by rfl) ?_; (k_extra "mine:same")) | (intros; (try dsimp only [forget, up]); (repeat' split); all_goals first | rfl | (exfalso; subst_vars; (rename (List.contains _ _ = false) => hz9); (revert hz9); decide) | (exfalso; (rename (List.contains _ _ = false) => hz9); (rename (List.contains _ _ = true) => hz8); rw [hz9] at hz8; exact Bool.noConfusion hz8) | (exfalso; subst_vars; contradiction)))
  trivial
open PySem PySem.W PySem.Calls PySem.Spec PyProof.Rows
theorem lawLen : (lawOf.map fun x => x.2.1.length) = some 23 := by kernel_rfl
theorem seg_of {ps : Arguments} {body : List Stmt} {sc : Scope} (he : lawOf = some (ps, body, sc)) (i n : Nat) : lawSeg i n = some ((body.drop i).take n, sc) := by unfold lawSeg; rw [he]; rfl
theorem cut_at {α : Type} (l : List α) (i n k : Nat) (h : i + n = k) : l.drop i = (l.drop i).take n ++ l.drop k := by
  subst h
  rw [← List.drop_drop, List.take_append_drop]
theorem EndT.from {h₀ : Heap} {L : Addr} {s : Shared} {h : Heap} {dn : Drawn} {tk : Nat} {fl : Flow} {s' : Shared} (e : EndT h₀ L { s with heap := h, drawn := dn, toks := tk } fl s') : EndT h₀ L s fl s' := by
  obtain ⟨a, h', dn', tk', r⟩ := e
  exact ⟨a, h', dn', tk', r⟩
theorem tups_of {pv : List Value} {prs : List (Int × Int)} {tl : List (Addr × Obj)} (h : PrsIs pv prs tl) : TupsIn tl pv prs := by
  rcases h with ⟨rfl, rfl, rfl⟩ | ⟨T, a, b, ta, tb, rfl, rfl, rfl⟩ | ⟨T, a, b, ta, tb, U, c, d, tc, td, rfl, rfl, rfl⟩
  · exact ⟨rfl, fun i v q e _ => by simp at e⟩
  · refine ⟨rfl, fun i v q e1 e2 => ?_⟩
    match i with
    | 0 => cases e1; cases e2; exact ⟨T, ta, tb, rfl, .head _⟩
    | i + 1 => simp at e1
  · refine ⟨rfl, fun i v q e1 e2 => ?_⟩
    match i with
    | 0 => cases e1; cases e2; exact ⟨T, ta, tb, rfl, .head _⟩
    | 1 => cases e1; cases e2; exact ⟨U, tc, td, rfl, .tail _ (.head _)⟩
    | i + 2 => simp at e1
theorem xor_in {k : Nat} {ns : List Int} (hn : ns.length = 2 ^ k) : ∀ x y : Int, 0 ≤ x ∧ x < (ns.length : Int) → 0 ≤ y ∧ y < (ns.length : Int) → 0 ≤ Builtin.bitXor x y ∧ Builtin.bitXor x y < (ns.length : Int) := by
  intro x y hx hy
  rw [hn] at hx hy ⊢
  obtain ⟨a, rfl⟩ : ∃ a : Nat, x = (a : Int) := ⟨x.toNat, by omega⟩
  obtain ⟨b, rfl⟩ : ∃ b : Nat, y = (b : Int) := ⟨y.toNat, by omega⟩
  rw [bitXor_nat]
  have := Nat.xor_lt_two_pow (n := k) (x := a) (y := b) (by omega) (by omega)
  omega
theorem digs1_01 : ∀ (k x : Nat), x < 2 ^ k → ∀ y ∈ digs 1 k x, 0 ≤ y ∧ y ≤ 1
  | 0, _, _, _, hy => nomatch hy
  | 1, x, hx, y, hy => by
    have e : y = (x : Int) := List.mem_singleton.mp hy
    subst e; omega
  | k + 2, x, hx, y, hy => by
    rcases List.mem_cons.mp hy with e | hy
    · subst e; omega
    · exact digs1_01 (k + 1) (x / 2 ^ 1) (by rw [Nat.pow_succ] at hx; omega) y hy
theorem ne_of_ltN {a b : Nat} (h : a < b) : @Ne Nat a b := Nat.ne_of_lt h
theorem ne_of_gtN {a b : Nat} (h : b < a) : @Ne Nat a b := (Nat.ne_of_lt h).symm
section
variable {w : World} {s : Shared} {h₀ : Heap} {L fa l : Addr} {m mg mb : Str → Option Value} {p : Program} {loose : List Str} {mean : ExcName → Option Value} {cd : Value} {o3 o4 o5 o38 o45 oz : Obj}
    {ps : Arguments} {body : List Stmt} {sc : Scope}
set_option maxHeartbeats 1000000 in
theorem law_tail3 (he : lawOf = some (ps, body, sc)) (B : Below callerA h₀ [] h₀) (X : (hd.heap_1 w.params).In h₀) (T : Top p loose mean mg mb h₀) {TT VL : Addr} {vt vv : List Value} {ns : List Int} {nt : Nat} {tw tz : Tok} {ps1 ps2 : Array Value} {v : Nat} {q0 q1 q2 q3 : Nat × Nat × Nat}
    (hq0 : TermOk 3 q0) (hq1 : TermOk 3 q1) (hq2 : TermOk 3 q2) (hq3 : TermOk 3 q3) (hv : tabV lts3 255 q0 q1 q2 q3 = (v : Int)) (hv8 : v < 2 ^ 8) (hns : ns = List.take 8 (digs 1 9 (256 + v)))
    (hw : m (Str.ofString "word") = some (.str (wordOf ns) tw)) (ht : m (Str.ofString "totals") = some (.ref TT)) (hIt : IntsAre vt (totOf lts3)) (hIv : IntsAre vv ns) (cz : oz.data = .cell (some (.int 3 tz))) (cv : o4.data = .cell (some (.ref VL))) (c3 : o3.data = .cell none)
    (l0 : @LT.lt Nat _ 45 L ∧ @LT.lt Nat _ 38 L) (lT : @LT.lt Nat _ (L + 1 + 1 + 1 + 1 + 1) TT) (n3 : @Ne Nat (L + 1 + 1 + 1) VL)
    (F : Fr h₀ L s.heap m) (N : News h₀ L s.heap [(TT, W.listOf vt.toArray nt), (VL, LCg.lst vv), (38, tabObj ps1), (45, tabObj ps2), (L + 1 + 1 + 1 + 1 + 1, o5), (L + 1 + 1 + 1 + 1, o4), (L + 1 + 1 + 1, o3), (L + 1, oz)]) :
    wpAny (model Challenge.rw_sn0075_01.row.prog w) (callerA.deeper (envOfC (Str.ofString "law") sc L fa cd)) (execs (body.drop 16) (envOfC (Str.ofString "law") sc L fa cd)) (EndT h₀ L s) (fun _ _ => False) s := by
  have hlen : body.length = 23 := by
    have h1 := lawLen
    rw [he] at h1
    exact Option.some.inj h1
  have e20 : body.drop 20 = (body.drop 20).take 3 := (List.take_of_length_le (by rw [List.length_drop, hlen]; decide)).symm
  obtain ⟨c, hc, hcv⟩ := span_of (l := base3) (k := 6) (code3 q0.1 hq0.1 q0.2.1 (by have := hq0.2.1; omega) q0.2.2 (by have := hq0.2.2; omega)) (code3 q1.1 hq1.1 q1.2.1 (by have := hq1.2.1; omega) q1.2.2 (by have := hq1.2.2; omega)) (code3 q2.1 hq2.1 q2.2.1 (by have := hq2.2.1; omega) q2.2.2 (by have := hq2.2.2; omega)) (code3 q3.1 hq3.1 q3.2.1 (by have := hq3.2.1; omega) q3.2.2 (by have := hq3.2.2; omega))
  have hvc : tab3 c = v := Int.ofNat.inj (hcv.symm.trans hv)
  have hck : chkN (popc 8) 4 3 v [1, 2, 4] tots3 = true := by
    rw [← hvc]
    exact upto_all c3_all c (by omega)
  have h01 : ∀ x ∈ ns, 0 ≤ x ∧ x ≤ 1 := fun x hx => digs1_01 9 (256 + v) (by omega) x (List.mem_of_mem_take (hns ▸ hx))
  have hns' : ns = List.map (bitF v) (rangeKs 0 8) := hns.trans (bits3 (f := bitF v) fun k _ => rfl)
  have hl8 : ns.length = 8 := by rw [hns', List.length_map, rangeKs_length]
  have htl : (totOf lts3).length = 8 := by decide +kernel
  rw [cut_at body 16 3 19 rfl]
  refine execs_app (segF3 (seg_of he 16 3) B X T cz cv hIv hl8 (xor_in (k := 3) hl8) F N fun LN A P av pv al prs ka kp tl th h1 tk1 m1 hR hIa hal hP e1 e2 e3 e4 e5 e6 hs3 hsP hlt F1 N1 => ?_)
  dsimp only
  rw [hns'] at hR
  obtain ⟨ha, hb, h2, hpd, hn1, hn2⟩ := plain3 (pop := popc 8) (fun _ _ => rfl) hv8 hck hR
  rw [← hns'] at hpd hn1 hn2
  have hT := tups_of hP
  have nA := hlt (A, W.listOf av.toArray ka) (.head _)
  have hne : ∀ q ∈ (A, W.listOf av.toArray ka) :: (TT, W.listOf vt.toArray nt) :: (VL, LCg.lst vv) :: (38, tabObj ps1) :: (45, tabObj ps2) :: (L + 1 + 1 + 1 + 1, o4) :: (L + 1, oz) :: tl, @Ne Nat q.1 P ∧ @Ne Nat q.1 LN ∧ @Ne Nat q.1 (L + 1 + 1 + 1) := by
    intro q hq
    refine ⟨hsP q hq, ne_of_ltN (hlt q ?_), ?_⟩
    · exact sub_app (by (k_extra "mine:sub")) hq
    · simp only [List.mem_cons] at hq
      rcases hq with rfl | rfl | rfl | rfl | rfl | rfl | rfl | hq
      · exact (hs3 _ (.head _)).symm
      · exact ne_of_gtN (by clear hlt hs3 hsP F1 N1 F N; omega)
      · exact n3.symm
      · exact ne_of_ltN (by clear hlt hs3 hsP F1 N1 F N; omega)
      · exact ne_of_ltN (by clear hlt hs3 hsP F1 N1 F N; omega)
      · exact ne_of_gtN (by clear hlt hs3 hsP F1 N1 F N; omega)
      · exact ne_of_ltN (by clear hlt hs3 hsP F1 N1 F N; omega)
      · exact (hs3 q (.tail _ (.tail _ hq))).symm
  have n1 : @Ne Nat P LN := ne_of_ltN (hlt (P, W.listOf pv.toArray kp) (.tail _ (.head _)))
  have n2 : @Ne Nat (L + 1 + 1 + 1) P := hs3 (P, W.listOf pv.toArray kp) (.tail _ (.head _))
  have n3' : @Ne Nat (L + 1 + 1 + 1) LN := ne_of_ltN (hlt (L + 1 + 1 + 1, o3) (by simp))
  rw [cut_at body 19 1 20 rfl]
  refine execs_app (segG3 (nt := nt) (ka := ka) (kp := kp) (r2 := (A, W.listOf av.toArray ka) :: (TT, W.listOf vt.toArray nt) :: (VL, LCg.lst vv) :: (38, tabObj ps1) :: (45, tabObj ps2) :: (L + 1 + 1 + 1 + 1, o4) :: (L + 1, oz) :: tl) (seg_of he 19 1) B X T cz c3 cv (e5.trans hw) (e6.trans ht) e2 e1 e3 e4
    hIt hl8 htl h01 hIv hIa hal ha hb (by rw [hT.1]; exact h2) ⟨hT.1, fun i v q g1 g2 => ?_⟩ (by simp) (by simp) (by simp) (by simp) (by simp) hne n1 n2 n3' hpd F1 (fun q hq => N1 q (by
      exact sub_app (by (k_extra "mine:sub")) hq)) fun lv kl o3' h3 tk3 m3 hIl hk3 F3 N3 => ?_)
  · obtain ⟨T', ta, tb, g3, g4⟩ := hT.2 i v q g1 g2
    exact ⟨T', ta, tb, g3, .tail _ (.tail _ (.tail _ (.tail _ (.tail _ (.tail _ (.tail _ g4))))))⟩
  dsimp only
  rw [e20]
  refine segH3 (lv := lv) (kl := kl) (kp := kp) (rest := [(38, tabObj ps1), (45, tabObj ps2)]) (seg_of he 20 3) B X T cz ((hk3 _ (by decide)).trans e1) ((hk3 _ (by decide)).trans e3) ((hk3 _ (by decide)).trans e4) hIl (by rw [line_length]; decide) (srt_of (line_sorted _ _)) (by rw [hT.1]; exact h2) hT.1 hn1 hn2 F3 (fun q hq => N3 q (by
    exact sub_app (by (k_extra "mine:sub")) hq)) fun h4 tk4 m4 F4 N4 => ?_
  exact ⟨rfl, h4, _, tk4, m4, ps1, ps2, rfl, F4, N4⟩
end
end PartGt
section PartGtb
open PySem PySem.W PySem.Calls PySem.Spec PyProof.Rows
section
variable {w : World} {s : Shared} {h₀ : Heap} {L fa l : Addr} {m mg mb : Str → Option Value} {p : Program} {loose : List Str} {mean : ExcName → Option Value} {cd : Value} {o3 o4 o5 o38 o45 oz : Obj}
    {ps : Arguments} {body : List Stmt} {sc : Scope}
set_option maxHeartbeats 1000000 in
theorem law_tail4 (he : lawOf = some (ps, body, sc)) (B : Below callerA h₀ [] h₀) (X : (hd.heap_1 w.params).In h₀) (T : Top p loose mean mg mb h₀) {TT VL : Addr} {vt vv : List Value} {ns : List Int} {nt : Nat} {tw tz : Tok} {ps1 ps2 : Array Value} {v : Nat} {q0 q1 q2 q3 : Nat × Nat × Nat}
    (hq0 : TermOk 4 q0) (hq1 : TermOk 4 q1) (hq2 : TermOk 4 q2) (hq3 : TermOk 4 q3) (hv : tabV lts4 65535 q0 q1 q2 q3 = (v : Int)) (hv8 : v < 2 ^ 16) (hns : ns = List.take 16 (digs 1 17 (65536 + v)))
    (hw : m (Str.ofString "word") = some (.str (wordOf ns) tw)) (ht : m (Str.ofString "totals") = some (.ref TT)) (hIt : IntsAre vt (totOf lts4)) (hIv : IntsAre vv ns) (cz : oz.data = .cell (some (.int 4 tz))) (cv : o4.data = .cell (some (.ref VL))) (c3 : o3.data = .cell none)
    (l0 : @LT.lt Nat _ 45 L ∧ @LT.lt Nat _ 38 L) (lT : @LT.lt Nat _ (L + 1 + 1 + 1 + 1 + 1) TT) (n3 : @Ne Nat (L + 1 + 1 + 1) VL)
    (F : Fr h₀ L s.heap m) (N : News h₀ L s.heap [(TT, W.listOf vt.toArray nt), (VL, LCg.lst vv), (38, tabObj ps1), (45, tabObj ps2), (L + 1 + 1 + 1 + 1 + 1, o5), (L + 1 + 1 + 1 + 1, o4), (L + 1 + 1 + 1, o3), (L + 1, oz)]) :
    wpAny (model Challenge.rw_sn0075_01.row.prog w) (callerA.deeper (envOfC (Str.ofString "law") sc L fa cd)) (execs (body.drop 16) (envOfC (Str.ofString "law") sc L fa cd)) (EndT h₀ L s) (fun _ _ => False) s := by
  have hlen : body.length = 23 := by
    have h1 := lawLen
    rw [he] at h1
    exact Option.some.inj h1
  have e20 : body.drop 20 = (body.drop 20).take 3 := (List.take_of_length_le (by rw [List.length_drop, hlen]; decide)).symm
  obtain ⟨c, hc, hcv⟩ := span_of (l := base4) (k := 10) (code4 q0.1 hq0.1 q0.2.1 (by have := hq0.2.1; omega) q0.2.2 (by have := hq0.2.2; omega)) (code4 q1.1 hq1.1 q1.2.1 (by have := hq1.2.1; omega) q1.2.2 (by have := hq1.2.2; omega)) (code4 q2.1 hq2.1 q2.2.1 (by have := hq2.2.1; omega) q2.2.2 (by have := hq2.2.2; omega)) (code4 q3.1 hq3.1 q3.2.1 (by have := hq3.2.1; omega) q3.2.2 (by have := hq3.2.2; omega))
  have hvc : tab4 c = v := Int.ofNat.inj (hcv.symm.trans hv)
  have hck : chkN pop16 8 4 v [1, 2, 4, 8] tots4 = true := by
    rw [← hvc]
    exact c4_all c (by omega)
  have h01 : ∀ x ∈ ns, 0 ≤ x ∧ x ≤ 1 := fun x hx => digs1_01 17 (65536 + v) (by omega) x (List.mem_of_mem_take (hns ▸ hx))
  have hns' : ns = List.map (bitF v) (rangeKs 0 16) := hns.trans (bits4 (f := bitF v) fun k _ => rfl)
  have hl8 : ns.length = 16 := by rw [hns', List.length_map, rangeKs_length]
  have htl : (totOf lts4).length = 16 := by decide +kernel
  rw [cut_at body 16 3 19 rfl]
  refine execs_app (segF4 (seg_of he 16 3) B X T cz cv hIv hl8 (xor_in (k := 4) hl8) F N fun LN A P av pv al prs ka kp tl th h1 tk1 m1 hR hIa hal hP e1 e2 e3 e4 e5 e6 hs3 hsP hlt F1 N1 => ?_)
  dsimp only
  rw [hns'] at hR
  obtain ⟨ha, hb, h2, hpd, hn1, hn2⟩ := plain4 (pop := pop16) (fun x hx => (pop16_is hx).symm) hv8 hck hR
  rw [← hns'] at hpd hn1 hn2
  have hT := tups_of hP
  have nA := hlt (A, W.listOf av.toArray ka) (.head _)
  have hne : ∀ q ∈ (A, W.listOf av.toArray ka) :: (TT, W.listOf vt.toArray nt) :: (VL, LCg.lst vv) :: (38, tabObj ps1) :: (45, tabObj ps2) :: (L + 1 + 1 + 1 + 1, o4) :: (L + 1, oz) :: tl, @Ne Nat q.1 P ∧ @Ne Nat q.1 LN ∧ @Ne Nat q.1 (L + 1 + 1 + 1) := by
    intro q hq
    refine ⟨hsP q hq, ne_of_ltN (hlt q ?_), ?_⟩
    · exact sub_app (by (k_extra "mine:sub")) hq
    · simp only [List.mem_cons] at hq
      rcases hq with rfl | rfl | rfl | rfl | rfl | rfl | rfl | hq
      · exact (hs3 _ (.head _)).symm
      · exact ne_of_gtN (by clear hlt hs3 hsP F1 N1 F N; omega)
      · exact n3.symm
      · exact ne_of_ltN (by clear hlt hs3 hsP F1 N1 F N; omega)
      · exact ne_of_ltN (by clear hlt hs3 hsP F1 N1 F N; omega)
      · exact ne_of_gtN (by clear hlt hs3 hsP F1 N1 F N; omega)
      · exact ne_of_ltN (by clear hlt hs3 hsP F1 N1 F N; omega)
      · exact (hs3 q (.tail _ (.tail _ hq))).symm
  have n1 : @Ne Nat P LN := ne_of_ltN (hlt (P, W.listOf pv.toArray kp) (.tail _ (.head _)))
  have n2 : @Ne Nat (L + 1 + 1 + 1) P := hs3 (P, W.listOf pv.toArray kp) (.tail _ (.head _))
  have n3' : @Ne Nat (L + 1 + 1 + 1) LN := ne_of_ltN (hlt (L + 1 + 1 + 1, o3) (by simp))
  rw [cut_at body 19 1 20 rfl]
  refine execs_app (segG4 (nt := nt) (ka := ka) (kp := kp) (r2 := (A, W.listOf av.toArray ka) :: (TT, W.listOf vt.toArray nt) :: (VL, LCg.lst vv) :: (38, tabObj ps1) :: (45, tabObj ps2) :: (L + 1 + 1 + 1 + 1, o4) :: (L + 1, oz) :: tl) (seg_of he 19 1) B X T cz c3 cv (e5.trans hw) (e6.trans ht) e2 e1 e3 e4
    hIt hl8 htl h01 hIv hIa hal ha hb (by rw [hT.1]; exact h2) ⟨hT.1, fun i v q g1 g2 => ?_⟩ (by simp) (by simp) (by simp) (by simp) (by simp) hne n1 n2 n3' hpd F1 (fun q hq => N1 q (by
      exact sub_app (by (k_extra "mine:sub")) hq)) fun lv kl o3' h3 tk3 m3 hIl hk3 F3 N3 => ?_)
  · obtain ⟨T', ta, tb, g3, g4⟩ := hT.2 i v q g1 g2
    exact ⟨T', ta, tb, g3, .tail _ (.tail _ (.tail _ (.tail _ (.tail _ (.tail _ (.tail _ g4))))))⟩
  dsimp only
  rw [e20]
  refine segH4 (lv := lv) (kl := kl) (kp := kp) (rest := [(38, tabObj ps1), (45, tabObj ps2)]) (seg_of he 20 3) B X T cz ((hk3 _ (by decide)).trans e1) ((hk3 _ (by decide)).trans e3) ((hk3 _ (by decide)).trans e4) hIl (by rw [line_length]; decide) (srt_of (line_sorted _ _)) (by rw [hT.1]; exact h2) hT.1 hn1 hn2 F3 (fun q hq => N3 q (by
    exact sub_app (by (k_extra "mine:sub")) hq)) fun h4 tk4 m4 F4 N4 => ?_
  exact ⟨rfl, h4, _, tk4, m4, ps1, ps2, rfl, F4, N4⟩
end
end PartGtb
section PartLz
open PySem PySem.W PySem.Calls PySem.Spec PyProof.Rows
theorem termOk3 {q : Nat × Nat × Nat} (h : TermOk 3 q) : q.1 < 5 ∧ q.2.1 < 4 ∧ q.2.2 < 4 := ⟨h.1, by have := h.2.1; omega, by have := h.2.2; omega⟩
theorem termOk4 {q : Nat × Nat × Nat} (h : TermOk 4 q) : q.1 < 5 ∧ q.2.1 < 4 ∧ q.2.2 < 4 := ⟨h.1, by have := h.2.1; omega, by have := h.2.2; omega⟩
theorem news_t8 {h₀ h : Heap} {L : Addr} {a b c d e f g i : Addr × Obj} (N : News h₀ L h [a, e, b, c, d, f, g, i]) : News h₀ L h [a, b, c, d, e, f, g, i] := fun q hq => N q (by
  exact sub_app (by (k_extra "mine:sub")) hq)
theorem lists_apart {h₀ h : Heap} {L a b : Addr} {news : List (Addr × Obj)} {vs ws : List Value} {n : Nat} (N : News h₀ L h news) (ha : (a, LCg.lst vs) ∈ news) (hb : (b, W.listOf ws.toArray n) ∈ news) (hl : vs.length ≠ ws.length) : @Ne Nat a b := by
  intro e
  have h1 := (N _ ha).1
  have h2 := (N _ hb).1
  rw [show a = b from e] at h1
  have h3 := congrArg Obj.data (Option.some.inj (h1.symm.trans h2))
  have h4 : vs.toArray = ws.toArray := (Data.seq.inj h3).1
  exact hl (by have := congrArg Array.size h4; simpa using this)
theorem rest_apart {L VL LL : Addr} {oV o38 o45 o4 o3 oz : Obj} (l0 : @LT.lt Nat _ 45 L ∧ @LT.lt Nat _ 38 L) (lLL : @LT.lt Nat _ (L + 1 + 1 + 1 + 1 + 1) LL) (n5 : @Ne Nat (L + 1 + 1 + 1 + 1 + 1) VL) (hV : @Ne Nat VL LL) :
    ∀ q ∈ ([(VL, oV), (38, o38), (45, o45), (L + 1 + 1 + 1 + 1, o4), (L + 1 + 1 + 1, o3), (L + 1, oz)] : List (Addr × Obj)), @Ne Nat q.1 (L + 1 + 1 + 1 + 1 + 1) ∧ @Ne Nat q.1 LL := by
  intro q hq
  simp only [List.mem_cons, List.not_mem_nil, or_false] at hq
  rcases hq with rfl | rfl | rfl | rfl | rfl | rfl
  · exact ⟨n5.symm, hV⟩
  all_goals exact ⟨by show @Ne Nat _ _; dsimp only; omega, by show @Ne Nat _ _; dsimp only; omega⟩
section
variable {w : World} {s : Shared} {h₀ : Heap} {L fa l : Addr} {m mg mb : Str → Option Value} {p : Program} {loose : List Str} {mean : ExcName → Option Value} {cd : Value} {vs : List Value} {ns : List Int} {o1 o2 o3 o4 o5 o38 o45 oz : Obj}
    {ps : Arguments} {body st : List Stmt} {sc : Scope}
theorem law_body (he : lawOf = some (ps, body, sc))
    (B : Below callerA h₀ [] h₀) (X : (hd.heap_1 w.params).In h₀) (T : Top p loose mean mg mb h₀) (hl : h₀.IsList l vs.toArray) (hi : IntsAre vs ns) (hfit : ns.length < 100)
    (hC : CodeHd h₀ 42 38) (hC2 : CodeHd h₀ 49 45) (l0 : @LT.lt Nat _ 45 L ∧ @LT.lt Nat _ 38 L) (c1 : o1.data = .cell none) (c2 : o2.data = .cell none) (c3 : o3.data = .cell none) (c4 : o4.data = .cell none) (c5 : o5.data = .cell none)
    (F : Fr h₀ L s.heap m) (hm : m (Str.ofString "script") = some (.ref l)) (N : News h₀ L s.heap [(L + 1 + 1 + 1 + 1 + 1, o5), (L + 1 + 1 + 1 + 1, o4), (L + 1 + 1 + 1, o3), (L + 1 + 1, o2), (L + 1, o1), (45, tabObj #[]), (38, tabObj #[])]) :
    wpAny (model Challenge.rw_sn0075_01.row.prog w) (callerA.deeper (envOfC (Str.ofString "law") sc L fa cd)) (execs body (envOfC (Str.ofString "law") sc L fa cd)) (EndT h₀ L s) (fun _ _ => False) s := by
  have hlen : body.length = 23 := by
    have h1 := lawLen
    rw [he] at h1
    exact Option.some.inj h1
  rw [show body = body.drop 0 from rfl, cut_at body 0 3 3 rfl]
  refine execs_app (segA (seg_of he 0 3) B X T hl hi hfit l0 c1 c2 F hm N fun TL T0 T1 T2 T3 q0 q1 q2 q3 sz a0 a1 a2 a3 b0 b1 b2 b3 d0 d1 d2 d3 tz oz ot h1 tk1 m1 hsz k0 k1 k2 k3 cz ct lT nT F1 N1 => ?_)
  dsimp only
  rw [cut_at body 3 4 7 rfl]
  refine execs_app ?_
  rcases hsz with rfl | rfl
  · refine segB3 (seg_of he 3 4) B X T hC hC2 l0 cz lT ⟨nT.2.2.2.2.2.1, nT.2.2.2.2.2.2⟩ F1 N1 fun LL c c2' oc oc2 vl n tf h2 dn2 tk2 m2 hIl hf hll hA hB lLL sc2 hsep F2 N2 => ?_
    dsimp only
    rw [cut_at body 7 3 10 rfl]
    refine execs_app (segC (seg_of he 7 3) B X T ct k0.1 k1.1 k2.1 k3.1 F2 N2 fun RL vr nr h3 tk3 m3 hIr hrow hf3 hl3 lRL F3 N3 => ?_)
    dsimp only
    rw [cut_at body 10 3 13 rfl]
    have t0 : TermBits lts3 255 8 q0 := termBits3 q0.1 k0.1 q0.2.1 (by have := k0.2.1; omega) q0.2.2 (by have := k0.2.2; omega)
    have t1 : TermBits lts3 255 8 q1 := termBits3 q1.1 k1.1 q1.2.1 (by have := k1.2.1; omega) q1.2.2 (by have := k1.2.2; omega)
    have t2 : TermBits lts3 255 8 q2 := termBits3 q2.1 k2.1 q2.2.1 (by have := k2.2.1; omega) q2.2.2 (by have := k2.2.2; omega)
    have t3 : TermBits lts3 255 8 q3 := termBits3 q3.1 k3.1 q3.2.1 (by have := k3.2.1; omega) q3.2.2 (by have := k3.2.2; omega)
    obtain ⟨v, hv, hv8, hbits⟩ := tab_bits t0 t1 t2 t3
    have hRun := run_row (lts := lts3) (full := 255) (q0 := q0) (q1 := q1) (q2 := q2) (q3 := q3) ⟨(by have := k0.2.1; show _ < 3; omega), (by have := k0.2.2; show _ < 3; omega)⟩ ⟨(by have := k1.2.1; show _ < 3; omega), (by have := k1.2.2; show _ < 3; omega)⟩ ⟨(by have := k2.2.1; show _ < 3; omega), (by have := k2.2.2; show _ < 3; omega)⟩ ⟨(by have := k3.2.1; show _ < 3; omega), (by have := k3.2.2; show _ < 3; omega)⟩
    rw [hv] at hRun
    refine execs_app (segD3 (v := v) (seg_of he 10 3) B X T hC ct cz c4 (hf3.trans hf) (hl3.trans hll) hrow hIr hIl (by show 17 < 100; decide) (by decide) hRun l0 lT ⟨lRL.2.2, lLL⟩ ⟨(hsep (L + 1 + 1 + 1 + 1) (by simp)).1, (hsep (L + 1 + 1 + 1 + 1) (by simp)).2, nT.2.2.2.1⟩ (bits3 fun k hk => hbits k hk) ?hqs hA ⟨by omega, by omega⟩ (bits_k3 hv8) F3 N3 fun VL BL vv vb nb o4' h4 tk4 m4 hIv hIb c4' hb4 hl4 sV F4 N4 => ?_)
    case hqs =>
      intro q hq
      simp only [List.mem_cons, List.not_mem_nil, or_false] at hq
      rcases hq with rfl | rfl | rfl | rfl
      · exact termOk3 k0
      · exact termOk3 k1
      · exact termOk3 k2
      · exact termOk3 k3
    dsimp only
    rw [cut_at body 13 1 14 rfl]
    refine execs_app (segE1 (seg_of he 13 1) B X T hb4 hIb (by rw [List.length_take, digs_length]; decide) (fun x hx => digs1_01 9 (256 + v) (by omega) x (List.mem_of_mem_take hx)) F4 N4 fun h5 tk5 tw m5 hw5 hl5 F5 N5 => ?_)
    dsimp only
    rw [cut_at body 14 2 16 rfl]
    have hlv : vv.length ≠ vl.length := by
      rw [hIv.length, hIl.length, List.length_take, digs_length]
      decide
    have hVL := lists_apart (a := VL) (b := LL) (n := n) N5 (by simp) (by simp) hlv
    refine execs_app (segT (nl := n) (lts := lts3) (rest := [(VL, LCg.lst vv), (38, tabObj #[rawInt 73, rawInt 4, .ref c]), (45, tabObj #[rawInt 88, rawInt 4, .ref c2']), (L + 1 + 1 + 1 + 1, o4'), (L + 1 + 1 + 1, o3), (L + 1, oz)]) (seg_of he 14 2) (seg_of he 15 1) B X T c5 hIl (by decide) lLL (rest_apart l0 lLL sV.2.1 hVL) (hl5.trans hl4) F5 (fun q hq => N5 q (by
      exact sub_app (by (k_extra "mine:sub")) hq)) fun TT vt nt o5' h6 tk6 m6 hIt ht6 hw6 lTT F6 N6 => ?_)
    dsimp only
    refine wpAny_mono (law_tail3 he B X T k0 k1 k2 k3 hv hv8 rfl (hw6.trans hw5) ht6 hIt hIv cz c4' c3 l0 lTT sV.1 F6 (news_t8 N6)) (fun fl s' e => EndT.from (EndT.from e)) fun _ _ e => e
  · refine segB4 (seg_of he 3 4) B X T hC hC2 l0 cz lT ⟨nT.2.2.2.2.2.1, nT.2.2.2.2.2.2⟩ F1 N1 fun LL c c2' oc oc2 vl n tf h2 dn2 tk2 m2 hIl hf hll hA hB lLL sc2 hsep F2 N2 => ?_
    dsimp only
    rw [cut_at body 7 3 10 rfl]
    refine execs_app (segC (seg_of he 7 3) B X T ct k0.1 k1.1 k2.1 k3.1 F2 N2 fun RL vr nr h3 tk3 m3 hIr hrow hf3 hl3 lRL F3 N3 => ?_)
    dsimp only
    rw [cut_at body 10 3 13 rfl]
    have t0 : TermBits lts4 65535 16 q0 := termBits4 q0.1 k0.1 q0.2.1 (by have := k0.2.1; omega) q0.2.2 (by have := k0.2.2; omega)
    have t1 : TermBits lts4 65535 16 q1 := termBits4 q1.1 k1.1 q1.2.1 (by have := k1.2.1; omega) q1.2.2 (by have := k1.2.2; omega)
    have t2 : TermBits lts4 65535 16 q2 := termBits4 q2.1 k2.1 q2.2.1 (by have := k2.2.1; omega) q2.2.2 (by have := k2.2.2; omega)
    have t3 : TermBits lts4 65535 16 q3 := termBits4 q3.1 k3.1 q3.2.1 (by have := k3.2.1; omega) q3.2.2 (by have := k3.2.2; omega)
    obtain ⟨v, hv, hv8, hbits⟩ := tab_bits t0 t1 t2 t3
    have hRun := run_row (lts := lts4) (full := 65535) (q0 := q0) (q1 := q1) (q2 := q2) (q3 := q3) ⟨(by have := k0.2.1; show _ < 4; omega), (by have := k0.2.2; show _ < 4; omega)⟩ ⟨(by have := k1.2.1; show _ < 4; omega), (by have := k1.2.2; show _ < 4; omega)⟩ ⟨(by have := k2.2.1; show _ < 4; omega), (by have := k2.2.2; show _ < 4; omega)⟩ ⟨(by have := k3.2.1; show _ < 4; omega), (by have := k3.2.2; show _ < 4; omega)⟩
    rw [hv] at hRun
    refine execs_app (segD4 (v := v) (seg_of he 10 3) B X T hC ct cz c4 (hf3.trans hf) (hl3.trans hll) hrow hIr hIl (by show 17 < 100; decide) (by decide) hRun l0 lT ⟨lRL.2.2, lLL⟩ ⟨(hsep (L + 1 + 1 + 1 + 1) (by simp)).1, (hsep (L + 1 + 1 + 1 + 1) (by simp)).2, nT.2.2.2.1⟩ (bits4 fun k hk => hbits k hk) ?hqs hA ⟨by omega, by omega⟩ (bits_k4 hv8) F3 N3 fun VL BL vv vb nb o4' h4 tk4 m4 hIv hIb c4' hb4 hl4 sV F4 N4 => ?_)
    case hqs =>
      intro q hq
      simp only [List.mem_cons, List.not_mem_nil, or_false] at hq
      rcases hq with rfl | rfl | rfl | rfl
      · exact termOk4 k0
      · exact termOk4 k1
      · exact termOk4 k2
      · exact termOk4 k3
    dsimp only
    rw [cut_at body 13 1 14 rfl]
    refine execs_app (segE1 (seg_of he 13 1) B X T hb4 hIb (by rw [List.length_take, digs_length]; decide) (fun x hx => digs1_01 17 (65536 + v) (by omega) x (List.mem_of_mem_take hx)) F4 N4 fun h5 tk5 tw m5 hw5 hl5 F5 N5 => ?_)
    dsimp only
    rw [cut_at body 14 2 16 rfl]
    have hlv : vv.length ≠ vl.length := by
      rw [hIv.length, hIl.length, List.length_take, digs_length]
      decide
    have hVL := lists_apart (a := VL) (b := LL) (n := n) N5 (by simp) (by simp) hlv
    refine execs_app (segT (nl := n) (lts := lts4) (rest := [(VL, LCg.lst vv), (38, tabObj #[rawInt 73, rawInt 4, .ref c]), (45, tabObj #[rawInt 88, rawInt 4, .ref c2']), (L + 1 + 1 + 1 + 1, o4'), (L + 1 + 1 + 1, o3), (L + 1, oz)]) (seg_of he 14 2) (seg_of he 15 1) B X T c5 hIl (by decide) lLL (rest_apart l0 lLL sV.2.1 hVL) (hl5.trans hl4) F5 (fun q hq => N5 q (by
      exact sub_app (by (k_extra "mine:sub")) hq)) fun TT vt nt o5' h6 tk6 m6 hIt ht6 hw6 lTT F6 N6 => ?_)
    dsimp only
    refine wpAny_mono (law_tail4 he B X T k0 k1 k2 k3 hv hv8 rfl (hw6.trans hw5) ht6 hIt hIv cz c4' c3 l0 lTT sV.1 F6 (news_t8 N6)) (fun fl s' e => EndT.from (EndT.from e)) fun _ _ e => e
end
end PartLz
section PartL2
open PySem PySem.W PySem.Calls PySem.Spec PyProof.Rows
set_option maxHeartbeats 4000000 in
theorem law2 : Challenge.rw_sn0075_01.Holds := hd ⟨left0, (by
  k_go0
  have hlow : lawOf = some (_, _, _) := rfl
  refine' wpAny_mono ?main ?post ?err
  case main =>
    refine' law_body hlow ?B ?X ?T ?hl ?hi ?hf ?hC ?hC2 ?l0 ?c1 ?c2 ?c3 ?c4 ?c5 ?F ?hm ?N
    case B => assumption
    case X => assumption
    case T => assumption
    case hl => assumption
    case hi => assumption
    case hf => omega
    case hC => assumption
    case hC2 => assumption
    case l0 => (rename ((_ : Prop) ∧ _ ∧ True) => hz; exact ⟨hz.1, hz.2.1⟩)
    case F => assumption
    case hm => exact rfl
    case N => assumption
    all_goals assumption
  case err => exact fun _ _ h => h.elim
  intro fl s' h
  obtain ⟨rfl, h', dn, tk, m', ps1, ps2, rfl, F9, N9⟩ := h
  dsimp only
  k_steps)⟩
end PartL2
end Mine
theorem PySem.Challenge.cw_sn0075_01_holds : PySem.Challenge.rw_sn0075_01.Holds := by
  exact Mine.law2
