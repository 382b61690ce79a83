import PyProof.Rows.All
import Wide.All
import OpenK.AllK
import Wide.FinOn
import PySem.Challenge.RW_wo0056_01
open PySem PySem.W PyProof.Rows PySem.Calls PySem.Spec
set_option Elab.async false
set_option maxRecDepth 100000
set_option linter.unusedVariables false
set_option maxHeartbeats 1000000
namespace Mine
/-! part B0 -/
noncomputable def q : Program := { PySem.Challenge.pw_wo0056_01 with main := { PySem.Challenge.pw_wo0056_01.main with body := [1,2,4,6,7,8,9,10,11,14,16,18,19,20,21,22].filterMap fun i => PySem.Challenge.pw_wo0056_01.main.body[i]? } }
noncomputable def loose : List Str := ["b1_set", "b3_exceptions"]
noncomputable def recOf (x : Str) : DefRec := ((recsOf q).find? fun e => e.name == x).getD ⟨"", ⟨[], [], none, [], [], none, []⟩, [], ⟨.module, [], false, false, []⟩, default⟩
theorem recs_names : (recsOf q).map (·.name) = (["_ellipsis_match", "Int2AP", "add", "floordiv", "lshift", "mod", "mul", "sub", "in_table_b1", "map_table_b3", "_law_spelled", "_law_asked", "_law_alike", "_law_order", "law"] : List Str) := by decide +kernel
theorem rec_ellipsis : (recsOf q).find? (fun e => e.name == ("_ellipsis_match" : Str)) = some (recOf "_ellipsis_match") := by kernel_rfl
theorem rec_Int2AP : (recsOf q).find? (fun e => e.name == ("Int2AP" : Str)) = some (recOf "Int2AP") := by kernel_rfl
theorem rec_add : (recsOf q).find? (fun e => e.name == ("add" : Str)) = some (recOf "add") := by kernel_rfl
theorem rec_floordiv : (recsOf q).find? (fun e => e.name == ("floordiv" : Str)) = some (recOf "floordiv") := by kernel_rfl
theorem rec_lshift : (recsOf q).find? (fun e => e.name == ("lshift" : Str)) = some (recOf "lshift") := by kernel_rfl
theorem rec_mod : (recsOf q).find? (fun e => e.name == ("mod" : Str)) = some (recOf "mod") := by kernel_rfl
theorem rec_mul : (recsOf q).find? (fun e => e.name == ("mul" : Str)) = some (recOf "mul") := by kernel_rfl
theorem rec_sub : (recsOf q).find? (fun e => e.name == ("sub" : Str)) = some (recOf "sub") := by kernel_rfl
theorem rec_in_b1 : (recsOf q).find? (fun e => e.name == ("in_table_b1" : Str)) = some (recOf "in_table_b1") := by kernel_rfl
theorem rec_map_b3 : (recsOf q).find? (fun e => e.name == ("map_table_b3" : Str)) = some (recOf "map_table_b3") := by kernel_rfl
theorem rec_spelled : (recsOf q).find? (fun e => e.name == ("_law_spelled" : Str)) = some (recOf "_law_spelled") := by kernel_rfl
theorem rec_asked : (recsOf q).find? (fun e => e.name == ("_law_asked" : Str)) = some (recOf "_law_asked") := by kernel_rfl
theorem rec_alike : (recsOf q).find? (fun e => e.name == ("_law_alike" : Str)) = some (recOf "_law_alike") := by kernel_rfl
theorem rec_order : (recsOf q).find? (fun e => e.name == ("_law_order" : Str)) = some (recOf "_law_order") := by kernel_rfl

noncomputable def b1L : List Int := [173, 847, 6150, 6155, 6156, 6157, 8203, 8204, 8205, 8288, 65279, 65024, 65025, 65026, 65027, 65028, 65029, 65030, 65031, 65032, 65033, 65034, 65035, 65036, 65037, 65038, 65039]
/-- the two objects of the top that the view does not hold: the set, and what the law asks of the table -/
structure Ext (prog : Program) (w : World) (mg : Str → Option Value) (h : Heap) : Prop where
  b1 : ∃ a S n, mg "b1_set" = some (.ref a) ∧ h.SetOf (intKind prog w) a S n ∧ ∀ c, S c = decide (c ∈ b1L)
  b3 : ∃ a D, mg "b3_exceptions" = some (.ref a) ∧ IntTab prog w h a D ∧ (∀ c : Int, c < 181 → Spec.lookup (.int c) D = none) ∧
    ∀ j ∈ ([0, 1, 2, 4, 7, 8, 9, 10, 11, 12] : List Nat), ∀ i, i < 16 → Spec.lookup (.int ((119808 + i + 52 * j : Nat) : Int)) D = some (.str ⟨#[97 + i]⟩)

noncomputable def Entry (d : DefRec) (f : Addr) (h : Heap) : Prop :=
  ∃ o pm cdv doc, h.get? f = some o ∧ o.data = .func (docDef d.name d.params d.body d.scope pm cdv doc) ∧ h.CodeRec cdv d.name
theorem Entry.keeps {d : DefRec} {f : Addr} {h h' : Heap} (x : Entry d f h) (k : ∀ b o, h.get? b = some o → h'.get? b = some o) : Entry d f h' := by
  obtain ⟨o, pm, cdv, doc, h1, h2, h3⟩ := x
  exact ⟨o, pm, cdv, doc, k _ _ h1, h2, h3.keeps k⟩

noncomputable def Lv (k : Nat) (A : Around) : Prop := A.handled = none ∧ A.depth ≤ 301 + k ∧ A.units ≤ 4 + 3 * k
theorem Lv.deeper {k : Nat} {A : Around} {env : Env} (h : Lv k A) : Lv (k + 1) (A.deeper env) := ⟨h.1, by show A.depth + 1 ≤ _; have := h.2.1; omega, by show A.units + 3 ≤ _; have := h.2.2; omega⟩

section
variable (prog : Program) (w : World) (mean : ExcName → Option Value) (mg mb : Str → Option Value)
/-- what a call of a def of the text is worth -/
noncomputable def Cn (k : Nat) (d : DefRec) (vals : List Value) (Pre : Heap → Prop) (R : Value → Heap → Heap → Prop) : Prop :=
  ∀ (A : Around) (base h₀ : Heap) (outer : List Env) (L a f : Addr) (m : Str → Option Value) (cn : Str) (cs : Scope) (ccd : Value) (news : List (Addr × Obj)) (h : Heap) (g : Array GenState) (dr : Drawn) (tk : Nat) (o : OsState) (Q E : Value → Shared → Prop),
    Below A base outer h₀ → Fr h₀ L h m → News h₀ L h news → Top q loose mean mg mb h₀ → Ext prog w mg h₀ → Entry d f h₀ → Lv k A → cs.kind = .function → Pre h →
    (∀ v h' tk', Fr h₀ L h' m → News h₀ L h' news → (∀ b o, h.get? b = some o → h'.get? b = some o) → R v h h' → Q v ⟨h', g, dr, tk', o⟩) →
    wpAny (model prog w) (A.deeper (envOf cn cs L a ccd)) (call (.ref f) vals) Q E ⟨h, g, dr, tk, o⟩
/-- the end of a body -/
noncomputable def Rt (R : Value → Heap → Heap → Prop) (h₀ : Heap) (g : Array GenState) (dr : Drawn) (o : OsState) (f : Flow) (s' : Shared) : Prop :=
  ∃ h' tk, s' = ⟨h', g, dr, tk, o⟩ ∧ (∀ b o, h₀.get? b = some o → h'.get? b = some o) ∧ R (match f with | .ret v => v | _ => .none) h₀ h'
end

theorem Ext.keeps {prog : Program} {w : World} {mg : Str → Option Value} {h h' : Heap} (x : Ext prog w mg h) (k : ∀ b o, h.get? b = some o → h'.get? b = some o) : Ext prog w mg h' :=
  ⟨let ⟨a, S, n, h1, ⟨o, es, ep, t, ho, r⟩, h3⟩ := x.b1; ⟨a, S, n, h1, ⟨o, es, ep, t, k _ _ ho, r⟩, h3⟩, let ⟨a, D, h1, h2, h3⟩ := x.b3; ⟨a, D, h1, h2.keep k, h3⟩⟩

section
variable {prog : Program} {w : World} {mean : ExcName → Option Value} {mg mb : Str → Option Value}
theorem Rt.intro {R : Value → Heap → Heap → Prop} {h₀ h' : Heap} {L : Addr} {m : Str → Option Value} {g : Array GenState} {dr : Drawn} {o : OsState} {v : Value} {tk : Nat} (F : Fr h₀ L h' m) (h : R v h₀ h') : Rt R h₀ g dr o (.ret v) ⟨h', g, dr, tk, o⟩ := ⟨h', tk, rfl, F.keep, h⟩

theorem enter {k : Nat} {d : DefRec} {vals : List Value} {Pre : Heap → Prop} {R : Value → Heap → Heap → Prop} {name : Str} {params : Arguments} {body : List Stmt} {scope : Scope} {p : Pos} (binds : List (Str × Value))
    (hd : d = ⟨name, params, body, scope, p⟩) (hk0 : k ≤ 10)
    (hbind : ∀ pm cdv doc, bindArgs (docDef name params body scope pm cdv doc) ⟨vals, []⟩ = pure binds)
    (hloc : (binds.all fun x => decide (scope.names.lookup x.1 = some .local)) = true)
    (hco : scope.isCoroutine = false) (hgen : scope.isGenerator = false) (hk : scope.kind = .function) (hcell : ∀ x ∈ scope.names, x.2 ≠ .cell)
    (H : ∀ (A : Around) (base h₀ : Heap) (outer : List Env) (L a : Addr) (cdv : Value) (h : Heap) (g : Array GenState) (dr : Drawn) (tk : Nat) (o : OsState), Below A base outer h₀ → Fr h₀ L h (fun x => binds.reverse.lookup x) → News h₀ L h [] → Top q loose mean mg mb h₀ → Ext prog w mg h₀ → Lv (k + 1) A → A.handled = none → Pre h₀ →
      wpAny (model prog w) (A.deeper (envOf name scope L a cdv)) (execs body (envOf name scope L a cdv)) (Rt R h₀ g dr o) (fun _ _ => False) ⟨h, g, dr, tk, o⟩) :
    Cn prog w mean mg mb k d vals Pre R := by
  subst hd
  intro A base h₀ outer L a f m cn cs ccd news h g dr tk o' Q E B F N T X ⟨o, pm, cdv, doc, h1, h2, h3⟩ lv hcs hpre ret
  refine call_top B F T h1 h2 h3 ?_ (hbind pm cdv doc) (locs hloc) (fun h₁ F₁ T₁ B₁ => ?_) hcs hco hgen hk hcell
  · show A.depth + 1 < 1000
    have := lv.2.1; omega
  · refine wpAny_mono (H _ base h (envOf cn cs L a ccd :: outer) h.objs.size f cdv h₁ g dr _ o' B₁ F₁ News.nil T₁ (X.keeps F.keep) lv.deeper lv.1 hpre) (fun fl s' hl => ?_) (fun _ _ x => x.elim)
    obtain ⟨h', tk', e, hk', hR⟩ := hl
    subst e
    exact ⟨hk', fun F' => ret _ h' tk' F' (fun p hp => ⟨hk' _ _ (N p hp).1, (N p hp).2⟩) hk' hR⟩
end
/-! part B1 -/
theorem ifB {b : Bool} {P R : Prop} (h1 : b = true → P) (h2 : b = false → R) : if b = true then P else R := by cases b <;> simp_all
section
variable {prog : Program} {w : World} {A : Around} {E : Value → Shared → Prop} {L : Addr} {h₀ : Heap} {m : Str → Option Value} {news : List (Addr × Obj)} {h : Heap} {g : Array GenState} {dr : Drawn} {tk : Nat} {o : OsState}
theorem call_of_cn {mean : ExcName → Option Value} {mg mb : Str → Option Value} {k : Nat} {d : DefRec} {vals : List Value} {Pre : Heap → Prop} {R : Value → Heap → Heap → Prop}
    {base : Heap} {outer : List Env} {a f : Addr} {cn : Str} {cs : Scope} {ccd : Value} {Q : Value → Shared → Prop} (C : Cn prog w mean mg mb k d vals Pre R)
    (B : Below A base outer h₀) (F : Fr h₀ L h m) (N : News h₀ L h news) (T : Top q loose mean mg mb h₀) (X : Ext prog w mg h₀) (en : Entry d f h₀) (lv : Lv k A) (hcs : cs.kind = .function) (hp : Pre h)
    (H : ∀ v h' tk', Fr h₀ L h' m → News h₀ L h' news → (∀ b o, h.get? b = some o → h'.get? b = some o) → R v h h' → Q v ⟨h', g, dr, tk', o⟩) :
    wpAny (model prog w) (A.deeper (envOf cn cs L a ccd)) (call (.ref f) vals) Q E ⟨h, g, dr, tk, o⟩ := C _ _ _ _ _ _ _ _ _ _ _ _ _ _ _ _ _ _ _ B F N T X en lv hcs hp H
section
variable {M : Model}
theorem newTup {vs : List Value} {Q : Value → Shared → Prop} (F : Fr h₀ L h m) (N : News h₀ L h news) (hsz : Nat.ble vs.length 100 = true)
    (H : ∀ h', Fr h₀ L h' m → News h₀ L h' ((h.objs.size, { cls := .type "tuple", data := .seq vs.toArray }) :: news) → Q (.ref h.objs.size) ⟨h', g, dr, tk, o⟩) :
    wpAny M A (newTuple vs) Q E ⟨h, g, dr, tk, o⟩ := newTuple_N F N H (Nat.le_trans (Nat.le_of_ble_eq_true hsz) (by decide))
theorem newLst {vs : List Value} {Q : Value → Shared → Prop} (F : Fr h₀ L h m) (N : News h₀ L h news) (hsz : Nat.ble vs.length 100 = true)
    (H : ∀ h', Fr h₀ L h' m → News h₀ L h' ((h.objs.size, { cls := .type "list", data := .seq vs.toArray }) :: news) → Q (.ref h.objs.size) ⟨h', g, dr, tk, o⟩) :
    wpAny M A (newList vs) Q E ⟨h, g, dr, tk, o⟩ := newList_N F N H (Nat.le_trans (Nat.le_of_ble_eq_true hsz) (by decide))
theorem stR {name : Str} {scope : Scope} {a : Addr} {cd : Value} {x : Str} {v : Value} {Q : Unit → Shared → Prop} (F : Fr h₀ L h m) (N : News h₀ L h news) (hk : scope.kind = .function) (hl : (envOf name scope L a cd).kindOf x = some .local)
    (H : ∀ h' tk', Fr h₀ L h' (fun y => if y = x then some v else m y) → News h₀ L h' news → Q () ⟨h', g, dr, tk', o⟩) :
    wpAny M A (storeName (envOf name scope L a cd) x v) Q E ⟨h, g, dr, tk, o⟩ := stN F N (fun h' F' N' => H h' _ F' N') hk hl
theorem constI {i : Int} {env : Env} {k : Nat} {pos : Pos} {Q : Value → Shared → Prop} (H : ∀ t tk', Q (.int i t) ⟨h, g, dr, tk', o⟩) :
    wpAny M A (eval (.Constant (.int i) k pos) env) Q E ⟨h, g, dr, tk, o⟩ := wpAny_Constant_int (H _ _)
theorem constN {i : Nat} {env : Env} {k : Nat} {pos : Pos} {Q : Value → Shared → Prop} (H : ∀ t tk', Q (.int (i : Int) t) ⟨h, g, dr, tk', o⟩) :
    wpAny M A (eval (.Constant (.int (i : Int)) k pos) env) Q E ⟨h, g, dr, tk, o⟩ := wpAny_Constant_int (H _ _)
theorem constS {x : Str} {env : Env} {k : Nat} {pos : Pos} {Q : Value → Shared → Prop} (H : ∀ t tk', Q (.str x t) ⟨h, g, dr, tk', o⟩) :
    wpAny M A (eval (.Constant (.str x) k pos) env) Q E ⟨h, g, dr, tk, o⟩ := Calls.Constant_str (H _ _)
end
/-- a pair made and taken apart at once -/
theorem unpackPair {t : Addr} {x y : Value} {Q : List Value → Shared → Prop} (hh : A.handled = none) (F : Fr h₀ L h m)
    (N : News h₀ L h ((t, { cls := .type "tuple", data := .seq [x, y].toArray }) :: news))
    (H : ∀ h', Fr h₀ L h' m → News h₀ L h' news → Q [x, y] ⟨h', g, dr, tk, o⟩) : wpAny (model prog w) A (unpackItems (.ref t) 2 none) Q E ⟨h, g, dr, tk, o⟩ :=
  unpackItemsN_ (items := #[x, y]) F N (News.isTup N (.head _)) hh rfl fun h' F' N' => H h' F' fun p hp => N' p (.tail _ hp)

theorem mod_nat {a b : Nat} {t u : Tok} {Q : Value → Shared → Prop} (hb : 0 < b) (H : ∀ t tk', Q (.int ((a % b : Nat) : Int) t) ⟨h, g, dr, tk', o⟩) :
    wpAny (model prog w) A (binaryOp .Mod (.int (a : Int) t) (.int (b : Int) u)) Q E ⟨h, g, dr, tk, o⟩ := by
  refine mod_int (by omega) ?_
  rw [Int.fmod_eq_emod_of_nonneg _ (by omega)]
  exact H _ _
theorem div_nat {a b : Nat} {t u : Tok} {Q : Value → Shared → Prop} (hb : 0 < b) (H : ∀ t tk', Q (.int ((a / b : Nat) : Int) t) ⟨h, g, dr, tk', o⟩) (hb' : b < 1073741824) :
    wpAny (model prog w) A (binaryOp .FloorDiv (.int (a : Int) t) (.int (b : Int) u)) Q E ⟨h, g, dr, tk, o⟩ := by
  refine floordiv_int (by omega) ?_ (.inl (PyProof.noPylong_small (by omega)))
  rw [Int.fdiv_eq_ediv_of_nonneg _ (by omega)]
  exact H _ _
theorem add_nat {a b : Nat} {t u : Tok} {Q : Value → Shared → Prop} (H : ∀ t tk', Q (.int ((a + b : Nat) : Int) t) ⟨h, g, dr, tk', o⟩) :
    wpAny (model prog w) A (binaryOp .Add (.int (a : Int) t) (.int (b : Int) u)) Q E ⟨h, g, dr, tk, o⟩ := add_int (H _ _)
theorem add_I {a b : Int} {t u : Tok} {Q : Value → Shared → Prop} (H : ∀ t tk', Q (.int (a + b) t) ⟨h, g, dr, tk', o⟩) :
    wpAny (model prog w) A (binaryOp .Add (.int a t) (.int b u)) Q E ⟨h, g, dr, tk, o⟩ := add_int (H _ _)
theorem sub_I {a b : Int} {t u : Tok} {Q : Value → Shared → Prop} (H : ∀ t tk', Q (.int (a - b) t) ⟨h, g, dr, tk', o⟩) :
    wpAny (model prog w) A (binaryOp .Sub (.int a t) (.int b u)) Q E ⟨h, g, dr, tk, o⟩ := sub_int (H _ _)
theorem sub_nat {a b : Nat} {t u : Tok} {Q : Value → Shared → Prop} (hab : b ≤ a) (H : ∀ t tk', Q (.int ((a - b : Nat) : Int) t) ⟨h, g, dr, tk', o⟩) :
    wpAny (model prog w) A (binaryOp .Sub (.int (a : Int) t) (.int (b : Int) u)) Q E ⟨h, g, dr, tk, o⟩ := sub_int (by rw [show (a : Int) - (b : Int) = ((a - b : Nat) : Int) by omega]; exact H _ _)
theorem iadd_nat {a b : Nat} {t u : Tok} {Q : Value → Shared → Prop} (H : ∀ t tk', Q (.int ((a + b : Nat) : Int) t) ⟨h, g, dr, tk', o⟩) :
    wpAny (model prog w) A (inplaceOp .Add (.int (a : Int) t) (.int (b : Int) u)) Q E ⟨h, g, dr, tk, o⟩ := wpAny_iadd_int (H _ _)
theorem mul_nat {a b : Nat} {t u : Tok} {Q : Value → Shared → Prop} (H : ∀ t tk', Q (.int ((a * b : Nat) : Int) t) ⟨h, g, dr, tk', o⟩) (hb : b < 1073741824) :
    wpAny (model prog w) A (binaryOp .Mult (.int (a : Int) t) (.int (b : Int) u)) Q E ⟨h, g, dr, tk, o⟩ :=
  mul_int (by rw [show ((a : Int) * (b : Int)) = ((a * b : Nat) : Int) by simp]; exact H _ _) (IntMulOk.of_right (intBits_le_64 (by omega) (by omega)))
theorem ne_nat {a b : Nat} {t u : Tok} {Q : Value → Shared → Prop} (H : Q (.bool (a != b)) ⟨h, g, dr, tk, o⟩) : wpAny (model prog w) A (compareOp .NotEq (.int (a : Int) t) (.int (b : Int) u)) Q E ⟨h, g, dr, tk, o⟩ := by
  refine ne_int ?_
  have e : ((a : Int) != (b : Int)) = (a != b) := by
    rw [Bool.eq_iff_iff]; simp only [bne_iff_ne]; omega
  first | (rw [e]; exact H) | (have e' : decide ((a : Int) ≠ (b : Int)) = (a != b) := by (rw [Bool.eq_iff_iff]; simp only [bne_iff_ne, decide_eq_true_eq]; omega); rw [e']; exact H)
theorem truthy_nat {a : Nat} {t : Tok} {Q : Bool → Shared → Prop} (H : Q (a != 0) ⟨h, g, dr, tk, o⟩) : wpAny (model prog w) A (truthy (.int (a : Int) t)) Q E ⟨h, g, dr, tk, o⟩ := by
  refine truthy_int ?_
  have e : ((a : Int) != 0) = (a != 0) := by rw [Bool.eq_iff_iff]; simp only [bne_iff_ne]; omega
  rw [e]; exact H
/-- the end of a while's turn -/
noncomputable def WStep (h₀ : Heap) (L : Addr) (g : Array GenState) (dr : Drawn) (o : OsState) (J : Nat → (Str → Option Value) → List (Addr × Obj) → Prop) (n : Nat) (f : Flow) (s₃ : Shared) : Prop :=
  f = .next ∧ ∃ h' tk m₂ news₂ n', s₃ = ⟨h', g, dr, tk, o⟩ ∧ Fr h₀ L h' m₂ ∧ News h₀ L h' news₂ ∧ n' < n ∧ J n' m₂ news₂
theorem WStep.intro {J : Nat → (Str → Option Value) → List (Addr × Obj) → Prop} {n : Nat} (n' : Nat) (F : Fr h₀ L h m) (N : News h₀ L h news) (hn : n' < n) (hJ : J n' m news) : WStep h₀ L g dr o J n .next ⟨h, g, dr, tk, o⟩ :=
  ⟨rfl, h, tk, m, news, n', rfl, F, N, hn, hJ⟩
theorem whileR {env : Env} {test : Expr} {body : List Stmt} {pos : Pos} {Q : Flow → Shared → Prop} (J : Nat → (Str → Option Value) → List (Addr × Obj) → Prop) (n₀ : Nat)
    (F : Fr h₀ L h m) (N : News h₀ L h news) (hJ : J n₀ m news)
    (turn : ∀ n m₁ news₁ h₁ tk₁, Fr h₀ L h₁ m₁ → News h₀ L h₁ news₁ → J n m₁ news₁ →
      wpAny (model prog w) A (isTrue test env (eval test env)) (fun b s₂ =>
        if b = true then wpAny (model prog w) A (execs body env) (WStep h₀ L g dr o J n) (fun _ _ => False) s₂ else Q .next s₂) (fun _ _ => False) ⟨h₁, g, dr, tk₁, o⟩) :
    wpAny (model prog w) A (exec (.While test body [] pos) env) Q (fun _ _ => False) ⟨h, g, dr, tk, o⟩ := While_inv J F N hJ turn PassesOwn.never
end
/-! part B2 -/
/-- a text by its signs -/
noncomputable def tx (l : List Nat) : Str := ⟨l.toArray⟩
theorem tx_length (l : List Nat) : (tx l).length = l.length := by show l.toArray.size = _; simp
theorem tx_append (a b : List Nat) : tx a ++ tx b = tx (a ++ b) := by
  apply Str.ext'
  rw [Str.cps_append]
  simp [tx]
theorem val_marker : valOf q "ELLIPSIS_MARKER" = some (.str "...") := by kernel_rfl
theorem marker_is : Str.ofString "..." = tx [46, 46, 46] := by decide +kernel
section
variable {prog : Program} {w : World} {A : Around} {E : Value → Shared → Prop} {L : Addr} {h₀ : Heap} {m : Str → Option Value} {s : Shared} {name : Str} {scope : Scope} {a : Addr} {cd : Value} {mean : ExcName → Option Value} {mg mb : Str → Option Value} {pos : Pos} {Q : Value → Shared → Prop}
theorem g_len (F : Fr h₀ L s.heap m) (T : Top q loose mean mg mb h₀) (H : Q (.builtin "len") s) (hk : scope.kind = .function) (hx : (envOf name scope L a cd).kindOf "len" = some .globalImplicit) :
    wpAny (model prog w) A (eval (.Name "len" pos) (envOf name scope L a cd)) Q E s := tp_builtin F T (by kernel_rfl) H (by decide +kernel) (by decide +kernel) (by decide +kernel) (by decide +kernel) (by decide +kernel) (by decide +kernel) hk hx (by decide +kernel)
theorem g_chr (F : Fr h₀ L s.heap m) (T : Top q loose mean mg mb h₀) (H : Q (.builtin "chr") s) (hk : scope.kind = .function) (hx : (envOf name scope L a cd).kindOf "chr" = some .globalImplicit) :
    wpAny (model prog w) A (eval (.Name "chr" pos) (envOf name scope L a cd)) Q E s := tp_builtin F T (by kernel_rfl) H (by decide +kernel) (by decide +kernel) (by decide +kernel) (by decide +kernel) (by decide +kernel) (by decide +kernel) hk hx (by decide +kernel)
theorem g_min (F : Fr h₀ L s.heap m) (T : Top q loose mean mg mb h₀) (H : Q (.builtin "min") s) (hk : scope.kind = .function) (hx : (envOf name scope L a cd).kindOf "min" = some .globalImplicit) :
    wpAny (model prog w) A (eval (.Name "min" pos) (envOf name scope L a cd)) Q E s := tp_builtin F T (by kernel_rfl) H (by decide +kernel) (by decide +kernel) (by decide +kernel) (by decide +kernel) (by decide +kernel) (by decide +kernel) hk hx (by decide +kernel)
theorem g_abs (F : Fr h₀ L s.heap m) (T : Top q loose mean mg mb h₀) (H : Q (.builtin "abs") s) (hk : scope.kind = .function) (hx : (envOf name scope L a cd).kindOf "abs" = some .globalImplicit) :
    wpAny (model prog w) A (eval (.Name "abs" pos) (envOf name scope L a cd)) Q E s := tp_builtin F T (by kernel_rfl) H (by decide +kernel) (by decide +kernel) (by decide +kernel) (by decide +kernel) (by decide +kernel) (by decide +kernel) hk hx (by decide +kernel)
theorem g_divmod (F : Fr h₀ L s.heap m) (T : Top q loose mean mg mb h₀) (H : Q (.builtin "divmod") s) (hk : scope.kind = .function) (hx : (envOf name scope L a cd).kindOf "divmod" = some .globalImplicit) :
    wpAny (model prog w) A (eval (.Name "divmod" pos) (envOf name scope L a cd)) Q E s := tp_builtin F T (by kernel_rfl) H (by decide +kernel) (by decide +kernel) (by decide +kernel) (by decide +kernel) (by decide +kernel) (by decide +kernel) hk hx (by decide +kernel)
theorem g_ord (F : Fr h₀ L s.heap m) (T : Top q loose mean mg mb h₀) (H : Q (.builtin "ord") s) (hk : scope.kind = .function) (hx : (envOf name scope L a cd).kindOf "ord" = some .globalImplicit) :
    wpAny (model prog w) A (eval (.Name "ord" pos) (envOf name scope L a cd)) Q E s := tp_builtin F T (by kernel_rfl) H (by decide +kernel) (by decide +kernel) (by decide +kernel) (by decide +kernel) (by decide +kernel) (by decide +kernel) hk hx (by decide +kernel)
theorem g_range (F : Fr h₀ L s.heap m) (T : Top q loose mean mg mb h₀) (H : Q (.type "range") s) (hk : scope.kind = .function) (hx : (envOf name scope L a cd).kindOf "range" = some .globalImplicit) :
    wpAny (model prog w) A (eval (.Name "range" pos) (envOf name scope L a cd)) Q E s := tp_builtin F T (by kernel_rfl) H (by decide +kernel) (by decide +kernel) (by decide +kernel) (by decide +kernel) (by decide +kernel) (by decide +kernel) hk hx (by decide +kernel)
theorem g_bytes (F : Fr h₀ L s.heap m) (T : Top q loose mean mg mb h₀) (H : Q (.type "bytes") s) (hk : scope.kind = .function) (hx : (envOf name scope L a cd).kindOf "bytes" = some .globalImplicit) :
    wpAny (model prog w) A (eval (.Name "bytes" pos) (envOf name scope L a cd)) Q E s := tp_builtin F T (by kernel_rfl) H (by decide +kernel) (by decide +kernel) (by decide +kernel) (by decide +kernel) (by decide +kernel) (by decide +kernel) hk hx (by decide +kernel)
theorem g_int (F : Fr h₀ L s.heap m) (T : Top q loose mean mg mb h₀) (H : Q (.type "int") s) (hk : scope.kind = .function) (hx : (envOf name scope L a cd).kindOf "int" = some .globalImplicit) :
    wpAny (model prog w) A (eval (.Name "int" pos) (envOf name scope L a cd)) Q E s := tp_builtin F T (by kernel_rfl) H (by decide +kernel) (by decide +kernel) (by decide +kernel) (by decide +kernel) (by decide +kernel) (by decide +kernel) hk hx (by decide +kernel)
theorem g_marker (F : Fr h₀ L s.heap m) (T : Top q loose mean mg mb h₀) (H : ∀ t, Q (.str (tx [46, 46, 46]) t) s) (hk : scope.kind = .function) (hx : (envOf name scope L a cd).kindOf "ELLIPSIS_MARKER" = some .globalImplicit) :
    wpAny (model prog w) A (eval (.Name "ELLIPSIS_MARKER" pos) (envOf name scope L a cd)) Q E s := tp_str F T val_marker (by rw [marker_is]; exact H) hk hx (by decide +kernel)
end
/-! part B3 -/
section
variable {prog : Program} {w : World} {A : Around} {E : Value → Shared → Prop} {L : Addr} {h₀ : Heap} {m : Str → Option Value} {news : List (Addr × Obj)} {h : Heap} {g : Array GenState} {dr : Drawn} {tk : Nat} {o : OsState} {mean : ExcName → Option Value} {mg mb : Str → Option Value}
/-- a call of a def of the text by its name -/
theorem callDef {name : Str} {scope : Scope} {a : Addr} {cd : Value} {x : Str} {np pos : Pos} {e : Expr} {rest : List Expr} {Q : Value → Shared → Prop} (d : DefRec) (F : Fr h₀ L h m) (T : Top q loose mean mg mb h₀)
    (hfind : (recsOf q).find? (fun e => e.name == x) = some d) (hk : scope.kind = .function) (hx : (envOf name scope L a cd).kindOf x = some .globalImplicit) (hd : (x == ("__debug__" : Str)) = false)
    (hst : starEach (e :: rest) (envOf name scope L a cd) = (false, eval e (envOf name scope L a cd)) :: starEach rest (envOf name scope L a cd))
    (H : ∀ f, Entry d f h₀ → wpAny (model prog w) A (spliced (backTo pos (starEach (e :: rest) (envOf name scope L a cd)))) (fun vs s₁ => (∀ b o, h₀.get? b = some o → s₁.heap.get? b = some o) ∧ wpAny (model prog w) A (call (.ref f) vs) Q E s₁) E ⟨h, g, dr, tk, o⟩) :
    wpAny (model prog w) A (eval (.Call (.Name x np) (e :: rest) [] pos) (envOf name scope L a cd)) Q E ⟨h, g, dr, tk, o⟩ := by
  refine Call_ (tp_def F T hfind (fun f o' pm code doc h1 h2 h3 => ?_) hk hx hd)
  refine callWith_def_at (F.keep _ _ h1) h2 (wpAny_mono (H f ⟨o', pm, code, doc, h1, h2, h3⟩) (fun vs s₁ p => ⟨p.1 _ _ h1, p.2⟩) fun _ _ x => x) hst
theorem lenS {x : Str} {t : Tok} {Q : Value → Shared → Prop} (hx : x.length ≤ 1000000) (H : ∀ t tk', Q (.int (x.length : Int) t) ⟨h, g, dr, tk', o⟩) : wpAny (model prog w) A (call (.builtin "len") [.str x t]) Q E ⟨h, g, dr, tk, o⟩ :=
  SBL.len (by omega) (H _ _)
theorem lenT {l : List Nat} {t : Tok} {Q : Value → Shared → Prop} (hx : l.length ≤ 1000000) (H : ∀ t tk', Q (.int (l.length : Int) t) ⟨h, g, dr, tk', o⟩) : wpAny (model prog w) A (call (.builtin "len") [.str (tx l) t]) Q E ⟨h, g, dr, tk, o⟩ :=
  lenS (by rw [tx_length]; exact hx) (by rw [tx_length]; exact H)
theorem lenL {D : Addr} {vs : List Value} {n : Nat} {Q : Value → Shared → Prop} (N : News h₀ L h news) (hm : (D, listOf vs.toArray n) ∈ news) (hx : vs.length ≤ 1000000) (H : ∀ t tk', Q (.int (vs.length : Int) t) ⟨h, g, dr, tk', o⟩) : wpAny (model prog w) A (call (.builtin "len") [.ref D]) Q E ⟨h, g, dr, tk, o⟩ :=
  PyProof.Rows.len_list (N.isList hm) (by rw [List.size_toArray]; omega) (by rw [List.size_toArray]; exact H _ _)
theorem lenLb {D : Addr} {vs : List Value} {Q : Value → Shared → Prop} (hl : h.IsList D vs.toArray) (hx : vs.length ≤ 1000000) (H : ∀ t tk', Q (.int (vs.length : Int) t) ⟨h, g, dr, tk', o⟩) : wpAny (model prog w) A (call (.builtin "len") [.ref D]) Q E ⟨h, g, dr, tk, o⟩ :=
  PyProof.Rows.len_list hl (by rw [List.size_toArray]; omega) (by rw [List.size_toArray]; exact H _ _)
theorem addT {a b : List Nat} {t u : Tok} {Q : Value → Shared → Prop} (H : ∀ t tk', Q (.str (tx (a ++ b)) t) ⟨h, g, dr, tk', o⟩) (hsz : a.length + b.length ≤ 1000000) : wpAny (model prog w) A (binaryOp .Add (.str (tx a) t) (.str (tx b) u)) Q E ⟨h, g, dr, tk, o⟩ :=
  add_str (fun t' tk' => by rw [tx_append]; exact H _ _) (by rw [tx_length, tx_length]; exact Nat.le_trans hsz (by decide))
theorem iaddI {a b : Int} {t u : Tok} {Q : Value → Shared → Prop} (H : ∀ t tk', Q (.int (a + b) t) ⟨h, g, dr, tk', o⟩) :
    wpAny (model prog w) A (inplaceOp .Add (.int a t) (.int b u)) Q E ⟨h, g, dr, tk, o⟩ := wpAny_iadd_int (H _ _)
theorem gt_I {a b : Int} {t u : Tok} {Q : Value → Shared → Prop} (H : Q (.bool (decide (b < a))) ⟨h, g, dr, tk, o⟩) : wpAny (model prog w) A (compareOp .Gt (.int a t) (.int b u)) Q E ⟨h, g, dr, tk, o⟩ := gt_int H
theorem gt_nat {a b : Nat} {t u : Tok} {Q : Value → Shared → Prop} (H : Q (.bool (decide (b < a))) ⟨h, g, dr, tk, o⟩) : wpAny (model prog w) A (compareOp .Gt (.int (a : Int) t) (.int (b : Int) u)) Q E ⟨h, g, dr, tk, o⟩ := gt_int (by
  have e : decide ((b : Int) < (a : Int)) = decide (b < a) := by (rw [Bool.eq_iff_iff]; simp only [decide_eq_true_eq]; omega)
  rw [e]; exact H)
theorem ge_nat {a b : Nat} {t u : Tok} {Q : Value → Shared → Prop} (H : Q (.bool (decide (b ≤ a))) ⟨h, g, dr, tk, o⟩) : wpAny (model prog w) A (compareOp .GtE (.int (a : Int) t) (.int (b : Int) u)) Q E ⟨h, g, dr, tk, o⟩ := ge_int (by
  have e : decide ((b : Int) ≤ (a : Int)) = decide (b ≤ a) := by (rw [Bool.eq_iff_iff]; simp only [decide_eq_true_eq]; omega)
  rw [e]; exact H)
theorem isub_nat {a b : Nat} {t u : Tok} {Q : Value → Shared → Prop} (hab : b ≤ a) (H : ∀ t tk', Q (.int ((a - b : Nat) : Int) t) ⟨h, g, dr, tk', o⟩) :
    wpAny (model prog w) A (inplaceOp .Sub (.int (a : Int) t) (.int (b : Int) u)) Q E ⟨h, g, dr, tk, o⟩ := isub_int (by rw [show (a : Int) - (b : Int) = ((a - b : Nat) : Int) by omega]; exact H _ _)
theorem truthyT {l : List Nat} {t : Tok} {Q : Bool → Shared → Prop} (hx : l.length ≤ 1000000) (H : ∀ tk', Q (l.length != 0) ⟨h, g, dr, tk', o⟩) : wpAny (model prog w) A (truthy (.str (tx l) t)) Q E ⟨h, g, dr, tk, o⟩ := by
  refine SBL.truthy (by rw [tx_length]; omega) ?_
  rw [tx_length]
  have e : ((l.length : Int) != 0) = (l.length != 0) := by rw [Bool.eq_iff_iff]; simp only [bne_iff_ne]; omega
  rw [e]; exact H _
theorem split2 {a b : Str} {y : Str} {x : Str} {t u : Tok} {Q : Value → Shared → Prop} (F : Fr h₀ L h m) (N : News h₀ L h news) (hy : (y.length == 0) = false) (hs : Txt.split x y = [a, b]) (hsz : x.length ≤ 1000000)
    (H : ∀ D ta tb h' tk', Fr h₀ L h' m → News h₀ L h' ((D, listOf [Value.str a ta, .str b tb].toArray 0) :: news) → (∀ p ∈ news, p.1 < D) → Q (.ref D) ⟨h', g, dr, tk', o⟩) :
    wpAny (model prog w) A (call (.builtin "str.split") [.str x t, .str y u]) Q E ⟨h, g, dr, tk, o⟩ := by
  refine KSpl.split1 F N hy (fun D l h' k e _ F' N' hlt => ?_) (Nat.le_trans (Nat.add_le_add_right hsz 2) (by decide))
  rw [hs] at e
  obtain ⟨ta, l1, rfl, e1⟩ := KSpl.cons_of e
  obtain ⟨tb, l2, rfl, e2⟩ := KSpl.cons_of e1
  obtain rfl := KSpl.nil_of e2
  exact H D ta tb h' k F' N' hlt
theorem itemL {value slice : Expr} {D : Addr} {vs : List Value} {n i : Nat} {u : Tok} {x : Value} {Q : Value → Shared → Prop} (N : News h₀ L h news) (hm : (D, listOf vs.toArray n) ∈ news) (hx : vs[i]? = some x) (H : Q x ⟨h, g, dr, tk, o⟩)
    (hs : subscripted slice false (.ref D) (.int (i : Int) u) = operate [.ref D, .int (i : Int) u] (getItem (.ref D) (.int (i : Int) u)) := by with_unfolding_all rfl) (hv : ∀ r, letTemporaryGo value (.ref D) r = pure () := by (intro _; rfl)) (hi : i < 2 ^ 62 := by decide) :
    wpAny (model prog w) A (subscriptTail value slice (.ref D) (.int (i : Int) u)) Q E ⟨h, g, dr, tk, o⟩ :=
  kim_list N hm rfl rfl (by omega) (by omega) (by simpa using hx) H hs hv
theorem itemB {value slice : Expr} {D : Addr} {vs : List Value} {n : Nat} {k : Int} {u : Tok} {x : Value} {Q : Value → Shared → Prop} (N : News h₀ L h news) (hm : (D, listOf vs.toArray n) ∈ news) (h0 : k < 0) (h1 : -(vs.length : Int) ≤ k) (hx : vs[(k + (vs.length : Int)).toNat]? = some x) (H : Q x ⟨h, g, dr, tk, o⟩)
    (hs : subscripted slice false (.ref D) (.int k u) = operate [.ref D, .int k u] (getItem (.ref D) (.int k u)) := by with_unfolding_all rfl) (hv : ∀ r, letTemporaryGo value (.ref D) r = pure () := by (intro _; rfl)) (hi : -(2 ^ 63) ≤ k := by decide) :
    wpAny (model prog w) A (subscriptTail value slice (.ref D) (.int k u)) Q E ⟨h, g, dr, tk, o⟩ :=
  kim_back N hm rfl rfl h0 h1 hi hx H hs hv
theorem neg_I {a : Int} {t : Tok} {Q : Value → Shared → Prop} (H : ∀ t tk', Q (.int (-a) t) ⟨h, g, dr, tk', o⟩) : wpAny (model prog w) A (unaryOp .USub (.int a t)) Q E ⟨h, g, dr, tk, o⟩ := neg_int (H _ _)
theorem delAt {D : Addr} {vs : List Value} {n : Nat} {i : Int} {u : Tok} {rest : List (Addr × Obj)} {Q : Unit → Shared → Prop} (k : Nat) (F : Fr h₀ L h m) (N : News h₀ L h ((D, listOf vs.toArray n) :: rest)) (hd : ∀ p ∈ rest, p.1 ≠ D)
    (hf : Builtin.List.listFitsIndex i = true) (hk : seqIndex? i vs.length = some k) (hsz : Nat.ble vs.length 100 = true)
    (H : ∀ h', Fr h₀ L h' m → News h₀ L h' ((D, listOf (vs.eraseIdx k).toArray (n + 1)) :: rest) → Q () ⟨h', g, dr, tk, o⟩) :
    wpAny (model prog w) A (delItem (.ref D) (.int i u)) Q E ⟨h, g, dr, tk, o⟩ :=
  delItem_head F N hd hf (by rw [List.size_toArray]; exact hk) H (by rw [List.size_toArray]; exact Nat.le_trans (Nat.le_of_ble_eq_true hsz) (by decide))
end
/-! part T1 -/
open Builtin.Str in
theorem occ_skip (s sub : Str) (hi limit : Nat) : ∀ (l : List Nat) (st : Array Nat × Nat), (∀ i ∈ l, ¬ (st.snd ≤ i ∧ i + sub.length ≤ hi ∧ subAt s sub i = true)) → (forIn l st (StrLaws.occBody s sub hi limit) : Id _).run = st
  | [], st, _ => rfl
  | a :: l, st, hn => by
    rw [List.forIn_cons]
    unfold StrLaws.occBody
    rw [if_neg (fun c => hn a (.head _) ⟨c.1.1.2, c.1.2, c.2⟩)]
    exact occ_skip s sub hi limit l st fun i hi' => hn i (.tail _ hi')
open Builtin.Str in
theorem occ_app (s sub : Str) (hi limit : Nat) (l2 : List Nat) : ∀ (l1 : List Nat) (st : Array Nat × Nat), (forIn (l1 ++ l2) st (StrLaws.occBody s sub hi limit) : Id _).run = (forIn l2 ((forIn l1 st (StrLaws.occBody s sub hi limit) : Id _).run) (StrLaws.occBody s sub hi limit) : Id _).run
  | [], _ => rfl
  | a :: l1, st => by
    rw [List.cons_append, List.forIn_cons, List.forIn_cons]
    unfold StrLaws.occBody
    split
    · exact occ_app s sub hi limit l2 l1 _
    · exact occ_app s sub hi limit l2 l1 _
open Builtin.Str in
theorem occ_dots (f : List Nat) (hf : ∀ c ∈ f, c ≠ 46) (limit : Nat) (hl : 1 ≤ limit) : occurrences (tx (f ++ [46, 46, 46] ++ f)) (tx [46, 46, 46]) 0 (tx (f ++ [46, 46, 46] ++ f)).length limit = [f.length] := by
  have hlen : (tx (f ++ [46, 46, 46] ++ f)).length = f.length + 3 + f.length := by rw [tx_length]; simp; omega
  have hsub : ∀ i, subAt (tx (f ++ [46, 46, 46] ++ f)) (tx [46, 46, 46]) i = true → i + 3 ≤ f.length + 3 + f.length → (f ++ [46, 46, 46] ++ f)[i]? = some 46 ∧ (f ++ [46, 46, 46] ++ f)[i + 2]? = some 46 := by
    intro i hs hi
    rw [StrLaws.subAt_eq] at hs
    have hs' : ((f ++ [46, 46, 46] ++ f).drop i).take 3 = [46, 46, 46] := by simpa [tx, Str.length] using hs
    constructor
    · have := congrArg (fun l => l[0]?) hs'
      simpa [List.getElem?_take, List.getElem?_drop] using this
    · have := congrArg (fun l => l[2]?) hs'
      simpa [List.getElem?_take, List.getElem?_drop] using this
  rw [StrLaws.occ_eq, hlen]
  have hr : List.range' 0 (f.length + 3 + f.length + 1 - 0) = List.range' 0 f.length ++ f.length :: List.range' (f.length + 1) (f.length + 3) := by
    rw [show f.length + 3 + f.length + 1 - 0 = f.length + (f.length + 3 + 1) by omega, List.range'_append_1.symm, Nat.zero_add, List.range'_succ]
  rw [hr, occ_app, occ_skip _ _ _ _ (List.range' 0 f.length), List.forIn_cons]
  · have hat : subAt (tx (f ++ [46, 46, 46] ++ f)) (tx [46, 46, 46]) f.length = true := by
      rw [StrLaws.subAt_eq]
      simp [tx, Str.length]
    unfold StrLaws.occBody
    rw [if_pos ⟨⟨⟨by simp; omega, Nat.zero_le _⟩, by simp [tx, Str.length]⟩, hat⟩]
    show (forIn (List.range' (f.length + 1) (f.length + 3)) (#[].push f.length, f.length + (tx [46,46,46]).length) (StrLaws.occBody (tx (f ++ [46, 46, 46] ++ f)) (tx [46,46,46]) (f.length + 3 + f.length) limit) : Id _).run.fst.toList = _
    rw [occ_skip]
    · rfl
    · intro i hi ⟨h1, h2, h3⟩
      have h1' : f.length + 3 ≤ i := h1
      have h2' : i + 3 ≤ f.length + 3 + f.length := h2
      have := (hsub i h3 h2').1
      rw [List.getElem?_append_right (by simp; omega)] at this
      exact hf 46 (List.mem_of_getElem? this) rfl
  · intro i hi ⟨_, h2, h3⟩
    have hi' : i < f.length := by simp [List.mem_range'] at hi; omega
    have h2' : i + 3 ≤ f.length + 3 + f.length := h2
    have := (hsub i h3 h2').1
    rw [List.append_assoc, List.getElem?_append_left hi'] at this
    exact hf 46 (List.mem_of_getElem? this) rfl
open Builtin.Str in
theorem split_dots (f : List Nat) (hf : ∀ c ∈ f, c ≠ 46) : Txt.split (tx (f ++ [46, 46, 46] ++ f)) (tx [46, 46, 46]) = [tx f, tx f] := by
  have hlen : (tx (f ++ [46, 46, 46] ++ f)).length = f.length + 3 + f.length := by rw [tx_length]; simp; omega
  unfold Txt.split
  rw [if_neg, if_neg, occ_dots f hf _ (by omega)]
  · unfold partsBetween
    simp only [List.map_cons, List.map_nil, List.cons_append, List.nil_append, List.zip_cons_cons, List.zip_nil_right]
    have e1 : strSub (tx (f ++ [46, 46, 46] ++ f)) 0 f.length = tx f := by
      apply Str.ext'; show _ = f.toArray; apply Array.ext'; rw [StrLaws.strSub_toList]; simp [tx]
    have e2 : strSub (tx (f ++ [46, 46, 46] ++ f)) (f.length + (tx [46, 46, 46]).length) (tx (f ++ [46, 46, 46] ++ f)).length = tx f := by
      apply Str.ext'; show _ = f.toArray; apply Array.ext'; rw [StrLaws.strSub_toList, hlen]; simp [tx, Str.length]
    rw [e1, e2]
  · rw [occ_dots f hf _ (by omega)]; simp
  · rw [hlen]
    have hk : Builtin.Str.strKind (tx [46, 46, 46]) = 1 := by decide +kernel
    have hk2 : 1 ≤ Builtin.Str.strKind (tx (f ++ [46, 46, 46] ++ f)) := by unfold Builtin.Str.strKind; split <;> (try split) <;> omega
    simp only [hk, Bool.or_eq_true, decide_eq_true_eq, not_or]
    constructor
    · show ¬ _ < 3; omega
    · omega
/-! part B4 -/
section
variable {prog : Program} {w : World} {A : Around} {E : Value → Shared → Prop} {L : Addr} {h₀ : Heap} {m : Str → Option Value} {news : List (Addr × Obj)} {h : Heap} {g : Array GenState} {dr : Drawn} {tk : Nat} {o : OsState} {env : Env} {x : Str} {body : List Stmt} {Q : Flow → Shared → Prop}
theorem loopNext {J : (Str → Option Value) → List (Addr × Obj) → Prop} {own : List (Addr × Obj)} {adr : List Addr} {s₁ : Shared} {h' : Heap} {tk' : Nat} (nx : List (Addr × Obj)) (F : Fr h₀ L h' m) (N : News h₀ L h' (nx ++ own)) (hJ : J m nx) (ha : nx.map (·.1) = adr)
    (e : s₁ = ⟨h, g, dr, tk, o⟩) : InvPostN h₀ L J own adr s₁ Q .next ⟨h', g, dr, tk', o⟩ := by
  subst e
  exact ⟨h', tk', m, nx ++ own, nx, rfl, F, N, fun p hp => List.mem_append_left _ hp, fun p hp => List.mem_append_right _ hp, ha, hJ⟩
theorem iterR {r : Addr} {a b c : Int} {t u v : Tok} (n : Nat) (J : Nat → (Str → Option Value) → List (Addr × Obj) → Prop) (hh : A.handled = none) (hr : IsRange h r a b c t u v) (hsmall : Builtin.Range.small a b c = true) (hn : Builtin.Range.rangeSize a b c = (n : Int))
    (F : Fr h₀ env.locals h m) (N : News h₀ env.locals h news) (h0 : J 0 m news)
    (turn : ∀ i t m₁ nx h₁ tk₁ own, i < n → nx.map (·.1) = news.map (·.1) → OwnOff own (news.map (·.1)) → J i m₁ nx → Fr h₀ env.locals h₁ (fun y => if y = x then some (.int (a + (i : Int) * c) t) else m₁ y) → News h₀ env.locals h₁ (nx ++ own) →
      wpAny (model prog w) A (execs body env) (InvPostN h₀ env.locals (J (i + 1)) own (news.map (·.1)) ⟨h₁, g, dr, tk₁, o⟩ Q) E ⟨h₁, g, dr, tk₁, o⟩)
    (done : ∀ m₁ nx h₁ tk₁, J n m₁ nx → Fr h₀ env.locals h₁ m₁ → News h₀ env.locals h₁ nx → Q .next ⟨h₁, g, dr, tk₁, o⟩) :
    wpAny (model prog w) A (pyIter (.ref r)) (fun it s₂ => LoopAtV prog w A h₀ env x body Q E it s₂) E ⟨h, g, dr, tk, o⟩ := by
  refine wpAny_pyIter_range hr hsmall ?_
  have W : Walks prog w A h.objs.size [h.objs.size] [h.objs.size] n (fun i v => i < n ∧ ∃ t, v = .int (a + i * c) t)
      (fun i h' => IsRangeIter h' h.objs.size (a + (i : Nat) * c) ((n : Int) - (i : Nat)) c) := (Walks.range hh _ a c n).bound
  refine loop_invN J W ?_ ?_ ?_ ?_ (by show IsRangeIter _ _ _ _ _; rw [hn]; simpa using Heap.get?_push_size _ rfl) (F.push _) (fun p hp => ⟨Heap.get?_push_of_some _ (N p hp).1, (N p hp).2⟩) h0 ?_ done
  · intro hm
    exact absurd F.ns.lt ((List.mem_singleton.mp hm) ▸ Nat.lt_irrefl _)
  · intro b hb
    rw [List.mem_singleton.mp hb]
    exact next_is_new F
  · intro p hp hI
    exact absurd (Heap.lt_size (N p hp).1) ((List.mem_singleton.mp hI) ▸ Nat.lt_irrefl _)
  · intro p hp hI
    exact absurd (Heap.lt_size (N p hp).1) ((List.mem_singleton.mp hI) ▸ Nat.lt_irrefl _)
  · rintro i v m₁ nx h tk own hi ⟨_, t, rfl⟩ ha hoff hJ F₁ N₁
    exact turn i t m₁ nx h tk own hi ha hoff hJ F₁ N₁
/-- range(a, b), a and b small, a ≤ b -/
theorem iterUp {r : Addr} {a b : Nat} {t u v : Tok} (J : Nat → (Str → Option Value) → List (Addr × Obj) → Prop) (hh : A.handled = none) (hr : IsRange h r (a : Int) (b : Int) 1 t u v) (hb : b < 2 ^ 60) (hab : a ≤ b)
    (F : Fr h₀ env.locals h m) (N : News h₀ env.locals h news) (h0 : J a m news)
    (turn : ∀ i t m₁ nx h₁ tk₁ own, a ≤ i → i < b → nx.map (·.1) = news.map (·.1) → OwnOff own (news.map (·.1)) → J i m₁ nx → Fr h₀ env.locals h₁ (fun y => if y = x then some (.int (i : Int) t) else m₁ y) → News h₀ env.locals h₁ (nx ++ own) →
      wpAny (model prog w) A (execs body env) (InvPostN h₀ env.locals (J (i + 1)) own (news.map (·.1)) ⟨h₁, g, dr, tk₁, o⟩ Q) E ⟨h₁, g, dr, tk₁, o⟩)
    (done : ∀ m₁ nx h₁ tk₁, J b m₁ nx → Fr h₀ env.locals h₁ m₁ → News h₀ env.locals h₁ nx → Q .next ⟨h₁, g, dr, tk₁, o⟩) :
    wpAny (model prog w) A (pyIter (.ref r)) (fun it s₂ => LoopAtV prog w A h₀ env x body Q E it s₂) E ⟨h, g, dr, tk, o⟩ := by
  refine iterR (b - a) (fun i => J (a + i)) hh hr (PySem.small_one (by omega) (by omega) (by omega) (by omega)) (by rw [rangeSize_nat]; omega) F N h0 ?_ ?_
  · intro i t m₁ nx h₁ tk₁ own hi ha hoff hJ F₁ N₁
    have e : ((a : Int) + (i : Int) * 1) = ((a + i : Nat) : Int) := by omega
    rw [e] at F₁
    exact turn (a + i) t m₁ nx h₁ tk₁ own (by omega) (by omega) ha hoff hJ F₁ N₁
  · intro m₁ nx h₁ tk₁ hJ
    rw [show a + (b - a) = b by omega] at hJ
    exact done m₁ nx h₁ tk₁ hJ
/-- range(a, -1, -1): J at the number of turns -/
theorem iterDown {r : Addr} {a : Nat} {t u v : Tok} (J : Nat → (Str → Option Value) → List (Addr × Obj) → Prop) (hh : A.handled = none) (hr : IsRange h r (a : Int) (-1) (-1) t u v) (hb : a < 2 ^ 60)
    (F : Fr h₀ env.locals h m) (N : News h₀ env.locals h news) (h0 : J (a + 1) m news)
    (turn : ∀ i t m₁ nx h₁ tk₁ own, i ≤ a → nx.map (·.1) = news.map (·.1) → OwnOff own (news.map (·.1)) → J (i + 1) m₁ nx → Fr h₀ env.locals h₁ (fun y => if y = x then some (.int (i : Int) t) else m₁ y) → News h₀ env.locals h₁ (nx ++ own) →
      wpAny (model prog w) A (execs body env) (InvPostN h₀ env.locals (J i) own (news.map (·.1)) ⟨h₁, g, dr, tk₁, o⟩ Q) E ⟨h₁, g, dr, tk₁, o⟩)
    (done : ∀ m₁ nx h₁ tk₁, J 0 m₁ nx → Fr h₀ env.locals h₁ m₁ → News h₀ env.locals h₁ nx → Q .next ⟨h₁, g, dr, tk₁, o⟩) :
    wpAny (model prog w) A (pyIter (.ref r)) (fun it s₂ => LoopAtV prog w A h₀ env x body Q E it s₂) E ⟨h, g, dr, tk, o⟩ := by
  refine iterR (a + 1) (fun i => J (a + 1 - i)) hh hr (PySem.W.small_down (by omega) (by omega) (by omega) (by omega)) (by rw [PySem.W.rangeSize_downNat]; omega) F N h0 ?_ ?_
  · intro i t m₁ nx h₁ tk₁ own hi ha hoff hJ F₁ N₁
    have e : ((a : Int) + (i : Int) * (-1)) = ((a - i : Nat) : Int) := by omega
    rw [e] at F₁
    rw [show a + 1 - (i + 1) = a - i by omega]
    rw [show a + 1 - i = (a - i) + 1 by omega] at hJ
    exact turn (a - i) t m₁ nx h₁ tk₁ own (by omega) ha hoff hJ F₁ N₁
  · intro m₁ nx h₁ tk₁ hJ
    rw [show a + 1 - (a + 1) = 0 by omega] at hJ
    exact done m₁ nx h₁ tk₁ hJ
/-- over a list that stays as it is and is not of the ledger at hand -/
theorem iterLst {l : Addr} {vs : List Value} (J : Nat → (Str → Option Value) → List (Addr × Obj) → Prop) (hh : A.handled = none) (hls : h.IsList l vs.toArray) (hL : l ≠ env.locals) (hnl : ∀ p ∈ news, p.1 ≠ l)
    (F : Fr h₀ env.locals h m) (N : News h₀ env.locals h news) (h0 : J 0 m news)
    (turn : ∀ i v m₁ nx h₁ tk₁ own, i < vs.length → vs[i]? = some v → nx.map (·.1) = news.map (·.1) → OwnOff own (news.map (·.1)) → J i m₁ nx → Fr h₀ env.locals h₁ (fun y => if y = x then some v else m₁ y) → News h₀ env.locals h₁ (nx ++ own) →
      wpAny (model prog w) A (execs body env) (InvPostN h₀ env.locals (J (i + 1)) own (news.map (·.1)) ⟨h₁, g, dr, tk₁, o⟩ Q) E ⟨h₁, g, dr, tk₁, o⟩)
    (done : ∀ m₁ nx h₁ tk₁, J vs.length m₁ nx → Fr h₀ env.locals h₁ m₁ → News h₀ env.locals h₁ nx → Q .next ⟨h₁, g, dr, tk₁, o⟩) :
    wpAny (model prog w) A (pyIter (.ref l)) (fun it s₂ => LoopAtV prog w A h₀ env x body Q E it s₂) E ⟨h, g, dr, tk, o⟩ := by
  obtain ⟨ol, hol, _⟩ := id hls
  have hlt : l < h.objs.size := Heap.lt_size hol
  have hne : l ≠ h.objs.size := Nat.ne_of_lt hlt
  refine wpAny_pyIter_list hls ?_
  have W := Walks.list (prog := prog) (w := w) hh h.objs.size l hne vs.toArray
  have hsz : vs.toArray.size = vs.length := List.size_toArray ..
  rw [hsz] at W
  refine loop_invN J W ?_ ?_ ?_ ?_ ⟨⟨_, Heap.get?_push_size _ rfl, rfl, rfl⟩, hls.at fun o e => Heap.get?_push_of_some _ e⟩ (F.push _) (fun p hp => ⟨Heap.get?_push_of_some _ (N p hp).1, (N p hp).2⟩) h0 ?_ done
  · intro hm
    rcases List.mem_cons.mp hm with e | hm
    · exact absurd F.ns.lt (e ▸ Nat.lt_irrefl _)
    · exact hL (List.mem_singleton.mp hm).symm
  · intro b hb
    rw [List.mem_singleton.mp hb]
    exact next_is_new F
  · intro p hp hI
    exact absurd (Heap.lt_size (N p hp).1) ((List.mem_singleton.mp hI) ▸ Nat.lt_irrefl _)
  · intro p hp hI
    rcases List.mem_cons.mp hI with e | e
    · exact absurd (Heap.lt_size (N p hp).1) (e ▸ Nat.lt_irrefl _)
    · exact hnl p hp (List.mem_singleton.mp e)
  · rintro i v m₁ nx h tk own hi hP ha hoff hJ F₁ N₁
    exact turn i v m₁ nx h tk own hi (by simpa using hP) ha hoff hJ F₁ N₁
/-- over an empty list of the ledger -/
theorem iterNil {l : Addr} {k : Nat} {rest : List (Addr × Obj)} (hh : A.handled = none)
    (F : Fr h₀ env.locals h m) (N : News h₀ env.locals h ((l, listOf ([] : List Value).toArray k) :: rest)) (hr : ∀ p ∈ rest, p.1 ≠ l)
    (done : ∀ h₁ tk₁, Fr h₀ env.locals h₁ m → News h₀ env.locals h₁ rest → Q .next ⟨h₁, g, dr, tk₁, o⟩) :
    wpAny (model prog w) A (pyIter (.ref l)) (fun it s₂ => LoopAtV prog w A h₀ env x body Q E it s₂) E ⟨h, g, dr, tk, o⟩ :=
  iterLst (vs := []) (news := rest) (fun _ m' nx => m' = m ∧ nx = rest) hh (N.isList (.head _)) (N _ (.head _)).2.1 hr F (fun p hp => N p (.tail _ hp)) ⟨rfl, rfl⟩ (fun i _ _ _ _ _ _ hi => absurd hi (Nat.not_lt_zero _)) fun m₁ nx h₁ tk₁ ⟨e1, e2⟩ F₁ N₁ => done h₁ tk₁ (e1 ▸ F₁) (e2 ▸ N₁)
end
/-! part B5a -/
section
variable {prog : Program} {w : World} {A : Around} {E : Value → Shared → Prop} {L : Addr} {h₀ : Heap} {m : Str → Option Value} {news : List (Addr × Obj)} {h : Heap} {g : Array GenState} {dr : Drawn} {tk : Nat} {o : OsState} {mean : ExcName → Option Value} {mg mb : Str → Option Value}
theorem ordT {c : Nat} {t : Tok} {Q : Value → Shared → Prop} (H : ∀ t tk', Q (.int (c : Int) t) ⟨h, g, dr, tk', o⟩) : wpAny (model prog w) A (call (.builtin "ord") [.str (tx [c]) t]) Q E ⟨h, g, dr, tk, o⟩ :=
  ord_of_one (by rw [tx_length]; rfl) (H _ _)
theorem chrN {n : Nat} {t : Tok} {Q : Value → Shared → Prop} (hn : n ≤ 1114111) (H : ∀ t tk', Q (.str (tx [n]) t) ⟨h, g, dr, tk', o⟩) : wpAny (model prog w) A (call (.builtin "chr") [.int (n : Int) t]) Q E ⟨h, g, dr, tk, o⟩ :=
  chr_of_range (by omega) (by omega) (H _ _)
theorem lshN {a n : Nat} {t u : Tok} {Q : Value → Shared → Prop} (hn : n ≤ 1000000) (ha : a < 2 ^ 64) (H : ∀ t tk', Q (.int ((a * 2 ^ n : Nat) : Int) t) ⟨h, g, dr, tk', o⟩) : wpAny (model prog w) A (binaryOp .LShift (.int (a : Int) t) (.int (n : Int) u)) Q E ⟨h, g, dr, tk, o⟩ :=
  lshift_int_small (by omega) (by omega) (by simpa using ha) (by
    have e : ((a : Int) * 2 ^ (n : Int).toNat) = ((a * 2 ^ n : Nat) : Int) := by simp
    rw [e]; exact H _ _)
theorem lowerT {c d : Nat} {t : Tok} {Q : Value → Shared → Prop} (hc : Txt.lower (tx [c]) = tx [d]) (H : ∀ t tk', Q (.str (tx [d]) t) ⟨h, g, dr, tk', o⟩) : wpAny (model prog w) A (call (.builtin "str.lower") [.str (tx [c]) t]) Q E ⟨h, g, dr, tk, o⟩ :=
  SC.lower (by rw [hc]; rfl) (by rw [hc]; exact H _ _)
theorem inB1 {a : Addr} {S : Int → Bool} {n c : Nat} {t : Tok} {Q : Value → Shared → Prop} (F : Fr h₀ L h m) (hS : h₀.SetOf (intKind prog w) a S n) (H : ∀ tk', Q (.bool (S (c : Int))) ⟨h, g, dr, tk', o⟩) :
    wpAny (model prog w) A (compareOp .In (.int (c : Int) t) (.ref a)) Q E ⟨h, g, dr, tk, o⟩ :=
  wpAny_inSet_of (knd := intKind prog w) (k := (c : Int)) (intKind_is prog w _ _) rfl (let ⟨o, es, ep, t, ho, r⟩ := hS; ⟨o, es, ep, t, F.keep _ _ ho, r⟩) (H _)
end
theorem constBy {M : Model} {A : Around} {E : Value → Shared → Prop} {h : Heap} {g : Array GenState} {dr : Drawn} {tk : Nat} {o : OsState} {x : List UInt8} {env : Env} {k : Nat} {pos : Pos} {Q : Value → Shared → Prop} (H : ∀ t tk', Q (.bytes x.toArray t) ⟨h, g, dr, tk', o⟩) :
    wpAny M A (eval (.Constant (.bytes x) k pos) env) Q E ⟨h, g, dr, tk, o⟩ := W.Constant_bytes (H _ _)
section
variable {prog : Program} {w : World} {A : Around} {E : Value → Shared → Prop} {L : Addr} {h₀ : Heap} {m : Str → Option Value} {news : List (Addr × Obj)} {h : Heap} {g : Array GenState} {dr : Drawn} {tk : Nat} {o : OsState}
theorem absN {n : Nat} {t : Tok} {Q : Value → Shared → Prop} (H : ∀ t tk', Q (.int (n : Int) t) ⟨h, g, dr, tk', o⟩) : wpAny (model prog w) A (call (.builtin "abs") [.int (n : Int) t]) Q E ⟨h, g, dr, tk, o⟩ :=
  call_abs_int (fun u tk' => by rw [if_neg (by omega)]; exact H _ _)
theorem dmN {a b : Nat} {t u : Tok} {Q : Value → Shared → Prop} (F : Fr h₀ L h m) (N : News h₀ L h news) (hb : 0 < b) (hb' : b < 1073741824)
    (H : ∀ t1 t2 h' tk', Fr h₀ L h' m → News h₀ L h' ((h.objs.size, { cls := .type "tuple", data := .seq [Value.int ((a / b : Nat) : Int) t1, .int ((a % b : Nat) : Int) t2].toArray }) :: news) → Q (.ref h.objs.size) ⟨h', g, dr, tk', o⟩) :
    wpAny (model prog w) A (call (.builtin "divmod") [.int (a : Int) t, .int (b : Int) u]) Q E ⟨h, g, dr, tk, o⟩ :=
  divmod_N F N (by omega) (fun h' F' N' => by
    rw [Int.fdiv_eq_ediv_of_nonneg _ (by omega), Int.fmod_eq_emod_of_nonneg _ (by omega)] at N'
    exact H _ _ _ _ F' N') (.inl (PyProof.noPylong_small (by omega)))
end
section
variable {prog : Program} {w : World} {A : Around} {E : Value → Shared → Prop} {L : Addr} {h₀ : Heap} {m : Str → Option Value} {news : List (Addr × Obj)} {h : Heap} {g : Array GenState} {dr : Drawn} {tk : Nat} {o : OsState}
theorem asgPair {env : Env} {elts : List Expr} {k : Nat} {pos : Pos} {t : Addr} {x y : Value} {Q : Unit → Shared → Prop} (hh : A.handled = none) (F : Fr h₀ L h m)
    (N : News h₀ L h ((t, { cls := .type "tuple", data := .seq [x, y].toArray }) :: news)) (h1 : (assignEach elts env).length = 2) (h2 : List.findIdx? (fun x => x.fst) (assignEach elts env) = none)
    (H : ∀ h', Fr h₀ L h' m → News h₀ L h' news → wpAny (model prog w) A (assignInOrder ((assignEach elts env).map fun x => x.snd) [x, y]) Q E ⟨h', g, dr, tk, o⟩) :
    wpAny (model prog w) A (assign (.Tuple elts k pos) env (.ref t)) Q E ⟨h, g, dr, tk, o⟩ :=
  unpackN_ (items := #[x, y]) F N (News.isTup N (.head _)) hh h1 h2 fun h' F' N' => H h' F' fun p hp => N' p (.tail _ hp)
end
section
variable {prog : Program} {w : World} {A : Around} {E : Value → Shared → Prop} {L : Addr} {h₀ : Heap} {m : Str → Option Value} {news : List (Addr × Obj)} {h : Heap} {g : Array GenState} {dr : Drawn} {tk : Nat} {o : OsState}
theorem slB {value slice : Expr} {b : Array UInt8} {t : Tok} {l u : Value} {lo hi : Option Int} {ks : List Int} {Q : Value → Shared → Prop} (F : Fr h₀ L h m) (N : News h₀ L h news) (hk : KBw.bInts b = ks) (hl : IsPart l lo) (hu : IsPart u hi) (hz : ks.length ≤ 16777216)
    (H : ∀ b' t' h' tk', Fr h₀ L h' m → News h₀ L h' news → KBw.bInts b' = (ks.drop (lo.elim 0 (clipAt ks.length))).take (hi.elim ks.length (clipAt ks.length) - lo.elim 0 (clipAt ks.length)) → Q (.bytes b' t') ⟨h', g, dr, tk', o⟩)
    (hs : subscripted slice false (.bytes b t) (.ref h.objs.size) = operate [.ref h.objs.size, .bytes b t] (getItem (.bytes b t) (.ref h.objs.size)) := by with_unfolding_all rfl)
    (ht : ∀ r, letTemporaryGo value (.bytes b t) r = pure () := by intro _; with_unfolding_all rfl) :
    wpAny (model prog w) A (subscriptTail value slice (.bytes b t) (.ref h.objs.size)) Q E ⟨h.push { cls := .type "slice", data := .fields #[l, u, .none] }, g, dr, tk, o⟩ :=
  KBc.slice_K (s := ⟨h, g, dr, tk, o⟩) F N hk hl hu hz (fun h' t' k F' N' e => H _ _ _ _ F' N' e) hs ht
theorem addB {b c : Array UInt8} {t u : Tok} {ks ls : List Int} {Q : Value → Shared → Prop} (hb : KBw.bInts b = ks) (hc : KBw.bInts c = ls) (hsz : ks.length + ls.length ≤ 16777216)
    (H : ∀ b' t' tk', KBw.bInts b' = ks ++ ls → Q (.bytes b' t') ⟨h, g, dr, tk', o⟩) : wpAny (model prog w) A (binaryOp .Add (.bytes b t) (.bytes c u)) Q E ⟨h, g, dr, tk, o⟩ :=
  KBa.add_K hb hc hsz fun t' k e => H _ _ _ e
theorem clip_nat (n i : Nat) : clipAt n (i : Int) = min i n := by unfold clipAt; omega
end
/-! part B6 -/
/-- the values are these naturals -/
noncomputable def Nats (vs : List Value) (xs : List Nat) : Prop := vs.length = xs.length ∧ ∀ (i : Nat) (x : Nat), xs[i]? = some x → ∃ t, vs[i]? = some (Value.int (x : Int) t)
/-- the values are texts of one sign each -/
noncomputable def Chrs (vs : List Value) (cs : List Nat) : Prop := vs.length = cs.length ∧ ∀ (i : Nat) (x : Nat), cs[i]? = some x → ∃ t, vs[i]? = some (Value.str (tx [x]) t)
theorem Nats.nil : Nats [] [] := ⟨rfl, fun i x h => by cases i <;> cases h⟩
theorem Nats.cons {vs : List Value} {xs : List Nat} {x : Nat} {t : Tok} (h : Nats vs xs) : Nats (.int (x : Int) t :: vs) (x :: xs) :=
  ⟨by simp [h.1], fun i y hy => by
    cases i with
    | zero => obtain rfl : x = y := by simpa using hy
              exact ⟨t, rfl⟩
    | succ i => exact h.2 i y hy⟩
theorem Nats.push {vs : List Value} {xs : List Nat} {x : Nat} {t : Tok} (h : Nats vs xs) : Nats (vs ++ [.int (x : Int) t]) (xs ++ [x]) :=
  ⟨by simp [h.1], fun i y hy => by
    by_cases hi : i < xs.length
    · rw [List.getElem?_append_left hi] at hy
      rw [List.getElem?_append_left (by rw [h.1]; exact hi)]
      exact h.2 i y hy
    · rw [List.getElem?_append_right (by omega)] at hy
      rw [List.getElem?_append_right (by rw [h.1]; omega), h.1]
      cases hj : i - xs.length with
      | zero => rw [hj] at hy; obtain rfl : x = y := by simpa using hy
                exact ⟨t, rfl⟩
      | succ n => rw [hj] at hy; cases hy⟩
theorem Chrs.nil : Chrs [] [] := ⟨rfl, fun i x h => by cases i <;> cases h⟩
theorem Chrs.push {vs : List Value} {xs : List Nat} {x : Nat} {t : Tok} (h : Chrs vs xs) : Chrs (vs ++ [.str (tx [x]) t]) (xs ++ [x]) :=
  ⟨by simp [h.1], fun i y hy => by
    by_cases hi : i < xs.length
    · rw [List.getElem?_append_left hi] at hy
      rw [List.getElem?_append_left (by rw [h.1]; exact hi)]
      exact h.2 i y hy
    · rw [List.getElem?_append_right (by omega)] at hy
      rw [List.getElem?_append_right (by rw [h.1]; omega), h.1]
      cases hj : i - xs.length with
      | zero => rw [hj] at hy; obtain rfl : x = y := by simpa using hy
                exact ⟨t, rfl⟩
      | succ n => rw [hj] at hy; cases hy⟩
section
variable {prog : Program} {w : World} {A : Around} {E : Value → Shared → Prop} {L : Addr} {h₀ : Heap} {m : Str → Option Value} {news : List (Addr × Obj)} {h : Heap} {g : Array GenState} {dr : Drawn} {tk : Nat} {o : OsState}
theorem rg1 {n : Nat} {t : Tok} {Q : Value → Shared → Prop} (F : Fr h₀ L h m) (N : News h₀ L h news)
    (H : ∀ h' tk' a b c, IsRange h' h.objs.size ((0 : Nat) : Int) (n : Int) 1 a b c → Fr h₀ L h' m → News h₀ L h' news → Q (.ref h.objs.size) ⟨h', g, dr, tk', o⟩) : wpAny (model prog w) A (call (.type "range") [.int (n : Int) t]) Q E ⟨h, g, dr, tk, o⟩ :=
  range1_rows F N fun h' tk' a b c hr F' N' _ => H _ _ _ _ _ hr F' N'
theorem rg2 {a n : Nat} {t u : Tok} {Q : Value → Shared → Prop} (F : Fr h₀ L h m) (N : News h₀ L h news)
    (H : ∀ h' tk' x b c, IsRange h' h.objs.size (a : Int) (n : Int) 1 x b c → Fr h₀ L h' m → News h₀ L h' news → Q (.ref h.objs.size) ⟨h', g, dr, tk', o⟩) : wpAny (model prog w) A (call (.type "range") [.int (a : Int) t, .int (n : Int) u]) Q E ⟨h, g, dr, tk, o⟩ :=
  range2_rows F N fun h' tk' a b c hr F' N' _ => H _ _ _ _ _ hr F' N'
theorem rg3 {a b : Int} {t u v : Tok} {Q : Value → Shared → Prop} (F : Fr h₀ L h m) (N : News h₀ L h news)
    (H : ∀ h' tk' x y z, IsRange h' h.objs.size a b (-1) x y z → Fr h₀ L h' m → News h₀ L h' news → Q (.ref h.objs.size) ⟨h', g, dr, tk', o⟩) : wpAny (model prog w) A (call (.type "range") [.int a t, .int b u, .int (-1) v]) Q E ⟨h, g, dr, tk, o⟩ :=
  range3_rows F N (by decide) (fun h' tk' a b c hr F' N' _ => H _ _ _ _ _ hr F' N') (.inl (PyProof.noPylong_small (by omega)))
theorem lenBy {b : Array UInt8} {t : Tok} {ks : List Int} {Q : Value → Shared → Prop} (hk : KBw.bInts b = ks) (hfit : ks.length ≤ 1000000) (H : ∀ t tk', Q (.int (ks.length : Int) t) ⟨h, g, dr, tk', o⟩) : wpAny (model prog w) A (call (.builtin "len") [.bytes b t]) Q E ⟨h, g, dr, tk, o⟩ :=
  KBw.len_K hk (Nat.le_trans hfit (by decide)) (H _ _)
theorem itemBy {value slice : Expr} {b : Array UInt8} {t u : Tok} {ds : List Nat} {i d : Nat} {Q : Value → Shared → Prop} (hk : KBw.bInts b = ds.map fun d => ((65 + d : Nat) : Int)) (hl : ds.length ≤ 100) (hi : ds[i]? = some d)
    (H : ∀ t tk', Q (.int ((65 + d : Nat) : Int) t) ⟨h, g, dr, tk', o⟩)
    (hs : subscripted slice false (.bytes b t) (.int (i : Int) u) = operate [.bytes b t, .int (i : Int) u] (getItem (.bytes b t) (.int (i : Int) u)) := by with_unfolding_all rfl)
    (ht : ∀ r, letTemporaryGo value (.bytes b t) r = pure () := by intro _; with_unfolding_all rfl) : wpAny (model prog w) A (subscriptTail value slice (.bytes b t) (.int (i : Int) u)) Q E ⟨h, g, dr, tk, o⟩ := by
  have hlt : i < ds.length := by
    rcases Nat.lt_or_ge i ds.length with x | x
    · exact x
    · rw [List.getElem?_eq_none x] at hi; cases hi
  refine KBw.item_K hk (by simp; omega) (by omega) (by simp; omega) (fun t' k _ _ => ?_) hs ht
  have e : (ds.map fun d => ((65 + d : Nat) : Int)).getD ((i : Int).toNat) 0 = ((65 + d : Nat) : Int) := by
    rw [Int.toNat_natCast]
    simp [List.getD, hi]
  rw [e]; exact H _ _
theorem itemNats {value slice : Expr} {D : Addr} {vs : List Value} {xs : List Nat} {u : Tok} {i x : Nat} {Q : Value → Shared → Prop} (hl : h.IsList D vs.toArray) (hn : Nats vs xs) (hi : xs[i]? = some x) (hb : xs.length ≤ 1000)
    (H : ∀ t, Q (.int (x : Int) t) ⟨h, g, dr, tk, o⟩)
    (hs : subscripted slice false (.ref D) (.int (i : Int) u) = operate [.ref D, .int (i : Int) u] (getItem (.ref D) (.int (i : Int) u)) := by with_unfolding_all rfl) (hv : ∀ r, letTemporaryGo value (.ref D) r = pure () := by (intro _; rfl)) :
    wpAny (model prog w) A (subscriptTail value slice (.ref D) (.int (i : Int) u)) Q E ⟨h, g, dr, tk, o⟩ := by
  have hlt : i < xs.length := by
    rcases Nat.lt_or_ge i xs.length with y | y
    · exact y
    · rw [List.getElem?_eq_none y] at hi; cases hi
  obtain ⟨t, hv'⟩ := hn.2 i x hi

  exact item_listL hl (by omega) (by omega) (by rw [Int.toNat_natCast]; exact hv') (H t) hs hv
theorem newLk {M : Model} {vs : List Value} {Q : Value → Shared → Prop} (F : Fr h₀ L h m) (N : News h₀ L h news) (hsz : Nat.ble vs.length 100 = true)
    (H : ∀ l h', Fr h₀ L h' m → News h₀ L h' ((l, listOf vs.toArray 0) :: news) → (∀ p ∈ news, p.1 < l) → Q (.ref l) ⟨h', g, dr, tk, o⟩) : wpAny M A (newList vs) Q E ⟨h, g, dr, tk, o⟩ :=
  newList_K F N H (Nat.le_trans (Nat.le_of_ble_eq_true hsz) (by decide))
theorem gmApp {M : Model} {D : Addr} {its : Array Value} {n : Nat} {pl : Sem Bool} {Q : Value × List Value → Shared → Prop} (N : News h₀ L h news) (hm : (D, listOf its n) ∈ news)
    (H : Q (.builtin "list.append", [.ref D]) ⟨h, g, dr, tk, o⟩) : wpAny M A (getMethod (.ref D) "append" pl) Q E ⟨h, g, dr, tk, o⟩ :=
  getMethod_list_append (N.get hm) rfl rfl H
theorem appK {D : Addr} {vs : List Value} {n : Nat} {x : Value} {rest : List (Addr × Obj)} {Q : Value → Shared → Prop} (F : Fr h₀ L h m) (N : News h₀ L h ((D, listOf vs.toArray n) :: rest)) (hd : ∀ p ∈ rest, p.1 ≠ D)
    (H : ∀ h', Fr h₀ L h' m → News h₀ L h' ((D, listOf (vs ++ [x]).toArray (n + 1)) :: rest) → Q .none ⟨h', g, dr, tk, o⟩) (hsz : vs.length ≤ 1000) : wpAny (model prog w) A (call (.builtin "list.append") [.ref D, x]) Q E ⟨h, g, dr, tk, o⟩ :=
  append_K F N (Upd.head hd) (fun h' F' N' => H h' F' (by
    have e : (vs.toArray.push x) = (vs ++ [x]).toArray := by simp
    rw [e] at N'; exact N')) (by rw [List.size_toArray]; exact Nat.le_trans hsz (by decide))
theorem eq_nat {a b : Nat} {t u : Tok} {Q : Value → Shared → Prop} (H : Q (.bool (a == b)) ⟨h, g, dr, tk, o⟩) : wpAny (model prog w) A (compareOp .Eq (.int (a : Int) t) (.int (b : Int) u)) Q E ⟨h, g, dr, tk, o⟩ := by
  refine eq_int ?_
  have e : ((a : Int) == (b : Int)) = (a == b) := by
    rw [Bool.eq_iff_iff]; simp only [beq_iff_eq]; omega
  first | (rw [e]; exact H) | (have e' : decide ((a : Int) = (b : Int)) = (a == b) := by (rw [Bool.eq_iff_iff]; simp only [beq_iff_eq, decide_eq_true_eq]; omega); rw [e']; exact H)
theorem lt_nat {a b : Nat} {t u : Tok} {Q : Value → Shared → Prop} (H : Q (.bool (decide (a < b))) ⟨h, g, dr, tk, o⟩) : wpAny (model prog w) A (compareOp .Lt (.int (a : Int) t) (.int (b : Int) u)) Q E ⟨h, g, dr, tk, o⟩ := by
  refine lt_int ?_
  have e : decide ((a : Int) < (b : Int)) = decide (a < b) := by (rw [Bool.eq_iff_iff]; simp only [decide_eq_true_eq]; omega)
  rw [e]; exact H
theorem isListKeep {l : Addr} {a : Array Value} {h' : Heap} (x : h.IsList l a) (k : ∀ b o, h.get? b = some o → h'.get? b = some o) : h'.IsList l a := let ⟨o, ho, r⟩ := x; ⟨o, k _ _ ho, r⟩
end
/-! part B7 -/
noncomputable def zs (m : List Nat) : List Int := m.map fun n : Nat => (n : Int)
theorem nats_of_ints {vs : List Value} : ∀ {xs : List Nat}, IntsAre vs (zs xs) → Nats vs xs := by
  intro xs h
  generalize hz : zs xs = ns at h
  induction h generalizing xs with
  | nil => cases xs with
    | nil => exact Nats.nil
    | cons => cases hz
  | cons n t _ ih => cases xs with
    | nil => cases hz
    | cons x xs =>
      obtain ⟨rfl, h2⟩ : (x : Int) = n ∧ zs xs = _ := List.cons.inj hz
      exact (ih h2).cons
theorem ints_of_nats : ∀ {vs : List Value} {xs : List Nat}, Nats vs xs → IntsAre vs (zs xs)
  | [], [], _ => .nil
  | v :: vs, [], h => by cases h.1
  | [], x :: xs, h => by cases h.1
  | v :: vs, x :: xs, h => by
    obtain ⟨t, ht⟩ := h.2 0 x rfl
    obtain rfl : v = .int (x : Int) t := by simpa using ht
    exact .cons _ _ (ints_of_nats ⟨by simpa using h.1, fun i y hy => h.2 (i + 1) y hy⟩)
theorem zs_getD (m : List Nat) (i : Nat) : (zs m).getD i 0 = ((m.getD i 0 : Nat) : Int) := by
  simp only [zs, List.getD, List.getElem?_map]
  cases m[i]? <;> rfl
theorem zs_set (m : List Nat) (i x : Nat) : (zs m).set i (x : Int) = zs (m.set i x) := by simp [zs, List.map_set]
theorem zs_len (m : List Nat) : (zs m).length = m.length := by simp [zs]
section
variable {prog : Program} {w : World} {A : Around} {E : Value → Shared → Prop} {L : Addr} {h₀ : Heap} {m : Str → Option Value} {news : List (Addr × Obj)} {h : Heap} {g : Array GenState} {dr : Drawn} {tk : Nat} {o : OsState}
theorem mulL {D : Addr} {vs : List Value} {ns : List Int} {n k : Nat} {u : Tok} {rest : List (Addr × Obj)} {Q : Value → Shared → Prop} (F : Fr h₀ L h m) (N : News h₀ L h ((D, listOf vs.toArray n) :: rest)) (hi : IntsAre vs ns) (hk : k < 1000) (hl : vs.length ≤ 100)
    (H : ∀ D' ws h', Fr h₀ L h' m → News h₀ L h' ((D', listOf ws.toArray 0) :: rest) → (∀ p ∈ rest, p.1 ≠ D') → IntsAre ws (List.replicate k ns).flatten → Q (.ref D') ⟨h', g, dr, tk, o⟩) :
    wpAny (model prog w) A (binaryOp .Mult (.ref D) (.int (k : Int) u)) Q E ⟨h, g, dr, tk, o⟩ := by
  refine KM.mul F N (News.isList N (.head _)) hi (by omega) (by omega) ?_ (fun D' h' F' N' lt hi' _ _ _ _ _ => ?_)
  · rw [Int.toNat_natCast]
    have : vs.length * k ≤ 100 * 1000 := Nat.mul_le_mul hl (by omega)
    omega
  · rw [Int.toNat_natCast] at N' hi'
    refine H D' _ h' F' (fun p hp => ?_) (fun p hp => Nat.ne_of_lt (lt p (.tail _ hp))) hi'
    rcases List.mem_cons.mp hp with rfl | hp
    · exact N' _ (.head _)
    · exact N' _ (.tail _ (.tail _ hp))
theorem getL {D : Addr} {vs : List Value} {c : List Nat} {n i : Nat} {u : Tok} {Q : Value → Shared → Prop} (N : News h₀ L h news) (hm : (D, listOf vs.toArray n) ∈ news) (hi : IntsAre vs (zs c)) (h1 : i < c.length) (hc : c.length ≤ 1000)
    (H : ∀ t, Q (.int ((c.getD i 0 : Nat) : Int) t) ⟨h, g, dr, tk, o⟩) : wpAny (model prog w) A (getItem (.ref D) (.int (i : Int) u)) Q E ⟨h, g, dr, tk, o⟩ :=
  ksa_get N hm hi (by omega) (by rw [zs_len]; omega) (by omega) (fun t => by rw [Int.toNat_natCast, zs_getD]; exact H t)
theorem setL {D : Addr} {vs : List Value} {c : List Nat} {n i x : Nat} {t u : Tok} {rest : List (Addr × Obj)} {Q : Unit → Shared → Prop} (F : Fr h₀ L h m) (N : News h₀ L h ((D, listOf vs.toArray n) :: rest)) (hd : ∀ p ∈ rest, p.1 ≠ D) (hi : IntsAre vs (zs c)) (h1 : i < c.length) (hc : c.length ≤ 1000)
    (H : ∀ ws h', Fr h₀ L h' m → News h₀ L h' ((D, listOf ws.toArray n) :: rest) → IntsAre ws (zs (c.set i x)) → Q () ⟨h', g, dr, tk, o⟩) : wpAny (model prog w) A (setItem (.ref D) (.int (i : Int) t) (.int (x : Int) u)) Q E ⟨h, g, dr, tk, o⟩ :=
  ksa_set F N (Upd.head hd) hi (by omega) (by rw [zs_len]; omega) (by omega) (fun h' F' N' hi' _ _ => by
    rw [Int.toNat_natCast] at N' hi'
    rw [zs_set] at hi'
    exact H _ h' F' N' hi')
theorem addL {a b : Addr} {vs ws : List Value} {c d : List Nat} {Q : Value → Shared → Prop} (F : Fr h₀ L h m) (N : News h₀ L h news) (ha : h.IsList a vs.toArray) (hb : h.IsList b ws.toArray) (hi : IntsAre vs (zs c)) (hj : IntsAre ws (zs d)) (hc : c.length ≤ 100) (hd : d.length ≤ 100)
    (H : ∀ D us h', Fr h₀ L h' m → News h₀ L h' ((D, listOf us.toArray 0) :: news) → (∀ p ∈ news, p.1 < D) → IntsAre us (zs (c ++ d)) → Q (.ref D) ⟨h', g, dr, tk, o⟩) : wpAny (model prog w) A (binaryOp .Add (.ref a) (.ref b)) Q E ⟨h, g, dr, tk, o⟩ :=
  kmk_add_ints F N ha hb hi hj (fun D us h' F' N' lt hu => H D us h' F' N' lt (by rw [zs, List.map_append]; exact hu)) (by rw [zs_len, zs_len]; exact Nat.le_trans (by omega : c.length + d.length ≤ 200) (by decide))
theorem intsDrop {vs : List Value} {ns : List Int} (h : IntsAre vs ns) : ∀ i, IntsAre (vs.drop i) (ns.drop i) := by
  induction h with
  | nil => intro i; simp; exact .nil
  | cons n t x ih => intro i; cases i with
    | zero => exact .cons n t x
    | succ i => exact ih i
theorem intsTake {vs : List Value} {ns : List Int} (h : IntsAre vs ns) : ∀ i, IntsAre (vs.take i) (ns.take i) := by
  induction h with
  | nil => intro i; simp; exact .nil
  | cons n t x ih => intro i; cases i with
    | zero => exact .nil
    | succ i => exact .cons n t (ih i)
/-- xs[i:] -/
theorem slFrom {value slice : Expr} {l : Addr} {vs : List Value} {ns : List Int} {i : Nat} {u : Tok} {Q : Value → Shared → Prop} (F : Fr h₀ L h m) (N : News h₀ L h news) (hl : h.IsList l vs.toArray) (hi : IntsAre vs ns) (hz : vs.length ≤ 1000)
    (H : ∀ D ws h', Fr h₀ L h' m → News h₀ L h' ((D, listOf ws.toArray 0) :: news) → (∀ p ∈ news, p.1 < D) → IntsAre ws (ns.drop i) → Q (.ref D) ⟨h', g, dr, tk, o⟩)
    (hs : subscripted slice false (.ref l) (.ref h.objs.size) = operate [.ref h.objs.size, .ref l] (getItem (.ref l) (.ref h.objs.size)) := by with_unfolding_all rfl)
    (ht : ∀ r, letTemporaryGo value (.ref l) r = pure () := by intro _; with_unfolding_all rfl) :
    wpAny (model prog w) A (subscriptTail value slice (.ref l) (.ref h.objs.size)) Q E ⟨h.push { cls := .type "slice", data := .fields #[.int (i : Int) u, .none, .none] }, g, dr, tk, o⟩ :=
  kmk_slice_ints (s := ⟨h, g, dr, tk, o⟩) F N hl (.int _ _) .none hi (ms := ns.drop i) (by rw [slicePick_from']; exact intsDrop hi i) rfl (fun D ws h' F' N' lt hw _ _ => H D ws h' F' N' lt hw) hs ht (by rw [List.size_toArray]; exact Nat.le_trans hz (by decide))
/-- xs[:i] -/
theorem slTo {value slice : Expr} {l : Addr} {vs : List Value} {ns : List Int} {i : Nat} {u : Tok} {Q : Value → Shared → Prop} (F : Fr h₀ L h m) (N : News h₀ L h news) (hl : h.IsList l vs.toArray) (hi : IntsAre vs ns) (hz : vs.length ≤ 1000)
    (H : ∀ D ws h', Fr h₀ L h' m → News h₀ L h' ((D, listOf ws.toArray 0) :: news) → (∀ p ∈ news, p.1 < D) → IntsAre ws (ns.take i) → Q (.ref D) ⟨h', g, dr, tk, o⟩)
    (hs : subscripted slice false (.ref l) (.ref h.objs.size) = operate [.ref h.objs.size, .ref l] (getItem (.ref l) (.ref h.objs.size)) := by with_unfolding_all rfl)
    (ht : ∀ r, letTemporaryGo value (.ref l) r = pure () := by intro _; with_unfolding_all rfl) :
    wpAny (model prog w) A (subscriptTail value slice (.ref l) (.ref h.objs.size)) Q E ⟨h.push { cls := .type "slice", data := .fields #[.none, .int (i : Int) u, .none] }, g, dr, tk, o⟩ :=
  kmk_slice_ints (s := ⟨h, g, dr, tk, o⟩) F N hl .none (.int _ _) hi (ms := ns.take i) (by rw [slicePick_upto']; exact intsTake hi i) rfl (fun D ws h' F' N' lt hw _ _ => H D ws h' F' N' lt hw) hs ht (by rw [List.size_toArray]; exact Nat.le_trans hz (by decide))
/-- x[i:j] -/
theorem slT {value slice : Expr} {l : List Nat} {i j : Nat} {t ui uj : Tok} {Q : Value → Shared → Prop} (F : Fr h₀ L h m) (N : News h₀ L h news) (hij : i ≤ j) (hj : j ≤ l.length) (hll : l.length ≤ 1000)
    (H : ∀ t h' tk', Fr h₀ L h' m → News h₀ L h' news → Q (.str (tx ((l.drop i).take (j - i))) t) ⟨h', g, dr, tk', o⟩)
    (hs : subscripted slice false (.str (tx l) t) (.ref h.objs.size) = operate [.ref h.objs.size, .str (tx l) t] (getItem (.str (tx l) t) (.ref h.objs.size)) := by with_unfolding_all rfl)
    (ht : ∀ r, letTemporaryGo value (.str (tx l) t) r = pure () := by intro _; with_unfolding_all rfl) :
    wpAny (model prog w) A (subscriptTail value slice (.str (tx l) t) (.ref h.objs.size)) Q E ⟨h.push { cls := .type "slice", data := .fields #[.int (i : Int) ui, .int (j : Int) uj, .none] }, g, dr, tk, o⟩ :=
  slice_strN_ss_len (s := ⟨h, g, dr, tk, o⟩) F N (fun h' t' k F' N' _ => by
    have e : Txt.slice (tx l) (some (i : Int)) (some (j : Int)) = tx ((l.drop i).take (j - i)) := by
      have := eq_of_beq (PyProof.Rows.slice_closes (x := tx l) (i := (i : Int)) (j := (j : Int)) ⟨by omega, by omega, by show (j : Int) ≤ (l.length : Int); omega⟩)
      rw [this]
      show tx ((l.drop (i : Int).toNat).take ((j : Int) - (i : Int)).toNat) = _
      rw [Int.toNat_natCast, show ((j : Int) - (i : Int)).toNat = j - i by omega]
    rw [e]; exact H _ _ _ F' N') hs ht (by rw [tx_length]; exact Nat.le_trans hll (by decide))
/-- x[:j] -/
theorem slT0 {value slice : Expr} {l : List Nat} {j : Nat} {t uj : Tok} {Q : Value → Shared → Prop} (F : Fr h₀ L h m) (N : News h₀ L h news) (hj : j ≤ l.length) (hll : l.length ≤ 1000)
    (H : ∀ t h' tk', Fr h₀ L h' m → News h₀ L h' news → Q (.str (tx (l.take j)) t) ⟨h', g, dr, tk', o⟩)
    (hs : subscripted slice false (.str (tx l) t) (.ref h.objs.size) = operate [.ref h.objs.size, .str (tx l) t] (getItem (.str (tx l) t) (.ref h.objs.size)) := by with_unfolding_all rfl)
    (ht : ∀ r, letTemporaryGo value (.str (tx l) t) r = pure () := by intro _; with_unfolding_all rfl) :
    wpAny (model prog w) A (subscriptTail value slice (.str (tx l) t) (.ref h.objs.size)) Q E ⟨h.push { cls := .type "slice", data := .fields #[.none, .int (j : Int) uj, .none] }, g, dr, tk, o⟩ :=
  slice_strN_ns_len (s := ⟨h, g, dr, tk, o⟩) F N (fun h' t' k F' N' _ => by
    have e : Txt.slice (tx l) none (some (j : Int)) = tx (l.take j) := by
      have := eq_of_beq (PyProof.Rows.slice_closes_to (x := tx l) (j := (j : Int)) ⟨by omega, by show (j : Int) ≤ (l.length : Int); omega⟩)
      rw [this]
      show tx ((l.drop (0 : Int).toNat).take ((j : Int) - 0).toNat) = _
      rw [show ((j : Int) - 0).toNat = j by omega]; rfl
    rw [e]; exact H _ _ _ F' N') hs ht (by rw [tx_length]; exact Nat.le_trans hll (by decide))
end
/-! part B8 -/
section
variable {prog : Program} {w : World} {A : Around} {s : Shared} {h₀ : Heap} {L : Addr} {m : Str → Option Value} {env : Env}
/-- a list comprehension without a test, by an invariant of the values made; the ledger behind stays -/
theorem comp_ind {elt : Expr} {x : Str} {scope : Scope} {cl : List (Str × Addr)} {S : List (Addr × Obj) → Prop} {P : Nat → Value → Prop} {Fin : List Value → List (Addr × Obj) → Prop} {news : List (Addr × Obj)} (n : Nat) (R : Nat → List Value → Prop) (hS : S news)
    (turn : ∀ i ys v I oI C oC D m₂ h tk (E' : Value → Shared → Prop), i < n → R i ys → P i v → LCg.NsObj oC m₂ → m₂ x = some v → Fr h₀ L h m → News h₀ L h ((I, oI) :: (C, oC) :: (D, LCg.lst ys) :: news) →
      wpAny (model prog w) A (eval elt (compEnvC scope cl C env)) (fun y s₂ => ∃ h' tk', s₂ = { s with heap := h', toks := tk' } ∧ Fr h₀ L h' m ∧ News h₀ L h' ((I, oI) :: (C, oC) :: (D, LCg.lst ys) :: news) ∧ R (i + 1) (ys ++ [y])) E' { s with heap := h, toks := tk })
    (fin : ∀ ys, R n ys → Fin ys news) : ∀ k i ys, i + k = n → R i ys → LCg.CompRest prog w A h₀ L m env elt x scope cl s S P Fin k i ys news := by
  intro k
  induction k with
  | zero => intro i ys hi hR; obtain rfl : i = n := by omega
            exact LCg.CompRest.zero (fin ys hR)
  | succ k ih =>
    intro i ys hi hR
    refine LCg.CompRest.succ fun v I oI C oC D m₂ h tk E' hP hN hx F N off _ => ?_
    refine wpAny_mono (turn i ys v I oI C oC D m₂ h tk E' (by omega) hR hP hN hx F N) (fun y s₂ hy => ?_) fun _ _ x => x
    obtain ⟨h', tk', rfl, F', N', R'⟩ := hy
    exact LCg.CompEnd.intro F' N' news (fun p hp => hp) off hS (ih (i + 1) _ (by omega) R')
end
section
variable {prog : Program} {w : World} {A : Around} {E : Value → Shared → Prop} {L : Addr} {h₀ : Heap} {m : Str → Option Value} {news : List (Addr × Obj)} {h : Heap} {g : Array GenState} {dr : Drawn} {tk : Nat} {o : OsState}
/-- xs[i:j] -/
theorem slRun {value slice : Expr} {l : Addr} {vs : List Value} {ns : List Int} {i j : Nat} {u u' : Tok} {Q : Value → Shared → Prop} (F : Fr h₀ L h m) (N : News h₀ L h news) (hl : h.IsList l vs.toArray) (hi : IntsAre vs ns) (hz : vs.length ≤ 1000) (hij : i ≤ j) (hj : j ≤ vs.length)
    (H : ∀ D ws h', Fr h₀ L h' m → News h₀ L h' ((D, listOf ws.toArray 0) :: news) → (∀ p ∈ news, p.1 < D) → IntsAre ws ((ns.drop i).take (j - i)) → Q (.ref D) ⟨h', g, dr, tk, o⟩)
    (hs : subscripted slice false (.ref l) (.ref h.objs.size) = operate [.ref h.objs.size, .ref l] (getItem (.ref l) (.ref h.objs.size)) := by with_unfolding_all rfl)
    (ht : ∀ r, letTemporaryGo value (.ref l) r = pure () := by intro _; with_unfolding_all rfl) :
    wpAny (model prog w) A (subscriptTail value slice (.ref l) (.ref h.objs.size)) Q E ⟨h.push { cls := .type "slice", data := .fields #[.int (i : Int) u, .int (j : Int) u', .none] }, g, dr, tk, o⟩ :=
  kmk_slice_ints (s := ⟨h, g, dr, tk, o⟩) F N hl (.int _ _) (.int _ _) hi (ms := (ns.drop i).take (j - i)) (by rw [slicePick_run _ _ _ (by rw [List.size_toArray]; exact hj) hij]; exact intsTake (intsDrop hi i) _) rfl (fun D ws h' F' N' lt hw _ _ => H D ws h' F' N' lt hw) hs ht (by rw [List.size_toArray]; exact Nat.le_trans hz (by decide))
end
/-! part B9 -/
section
variable {prog : Program} {w : World} {A : Around} {E : Value → Shared → Prop} {L : Addr} {h₀ : Heap} {m : Str → Option Value} {news : List (Addr × Obj)} {h h' : Heap} {g : Array GenState} {dr : Drawn} {tk : Nat} {o : OsState} {mean : ExcName → Option Value} {mg mb : Str → Option Value}
theorem newsPut {a : Addr} {ob : Obj} (F : Fr h₀ L h m) (N' : News h₀ L h' news) (hn : h.get? a = none) (ha : h'.get? a = some ob) : News h₀ L h' ((a, ob) :: news) := by
  intro p hp
  rcases List.mem_cons.mp hp with rfl | hp
  · refine ⟨ha, ?_, ?_⟩
    · obtain ⟨oL, a1, a2, hoL, a3⟩ := F.ns
      intro e
      have : h.get? L = none := by rw [← e]; exact hn
      rw [hoL] at this
      cases this
    · cases e : h₀.get? a with
      | none => rfl
      | some x => have := F.keep a x e; rw [hn] at this; cases this
  · exact N' p hp
theorem newsOff {a : Addr} (N : News h₀ L h news) (hn : h.get? a = none) : ∀ p ∈ news, p.1 ≠ a := by
  rintro p hp rfl
  have := (N p hp).1
  rw [hn] at this
  cases this
variable {env : Env} {x : Str} {pos : Pos}
/-- a def of the text by its name, in any block of the module -/
theorem defE {M : Model} {s : Shared} {Q : Value → Shared → Prop} {d : DefRec} (F : Fr h₀ L s.heap m) (T : Top q loose mean mg mb h₀)
    (hfind : (recsOf q).find? (fun e => e.name == x) = some d) (hk : env.scope.kind = .function) (hx : env.kindOf x = some .globalImplicit) (hg : env.globals = mainGlobals) (hd : (x == ("__debug__" : Str)) = false)
    (H : ∀ f, Entry d f h₀ → Q (.ref f) s) : wpAny M A (eval (.Name x pos) env) Q E s := by
  have hn : d.name = x := beq_iff_eq.mp (List.find?_some (p := fun e : DefRec => e.name == x) hfind)
  obtain ⟨f, o, pm, code, doc, h1, h2, h3, h4⟩ := T.fn d (List.mem_of_find?_eq_some hfind)
  exact Calls.Name_function_global hk hx (Calls.loadGlobal_global (env := env) (mg := mg) (by rw [hg]; exact T.g.keeps F.keep) (hn ▸ h1) (H f ⟨o, pm, code, doc, h2, h3, h4⟩)) hd
theorem callDefE {np : Pos} {e : Expr} {rest : List Expr} {Q : Value → Shared → Prop} (d : DefRec) (F : Fr h₀ L h m) (T : Top q loose mean mg mb h₀)
    (hfind : (recsOf q).find? (fun e => e.name == x) = some d) (hk : env.scope.kind = .function) (hx : env.kindOf x = some .globalImplicit) (hg : env.globals = mainGlobals) (hd : (x == ("__debug__" : Str)) = false)
    (hst : starEach (e :: rest) env = (false, eval e env) :: starEach rest env)
    (H : ∀ f, Entry d f h₀ → wpAny (model prog w) A (spliced (backTo pos (starEach (e :: rest) env))) (fun vs s₁ => (∀ b o, h₀.get? b = some o → s₁.heap.get? b = some o) ∧ wpAny (model prog w) A (call (.ref f) vs) Q E s₁) E ⟨h, g, dr, tk, o⟩) :
    wpAny (model prog w) A (eval (.Call (.Name x np) (e :: rest) [] pos) env) Q E ⟨h, g, dr, tk, o⟩ := by
  refine Call_ (defE F T hfind hk hx hg hd (fun f en => ?_))
  obtain ⟨o', pm, cdv, doc, h1, h2, h3⟩ := en
  refine callWith_def_at (F.keep _ _ h1) h2 (wpAny_mono (H f ⟨o', pm, cdv, doc, h1, h2, h3⟩) (fun vs s₁ p => ⟨p.1 _ _ h1, p.2⟩) fun _ _ x => x) hst
theorem builtE {M : Model} {s : Shared} {v : Value} {Q : Value → Shared → Prop} (F : Fr h₀ L s.heap m) (T : Top q loose mean mg mb h₀) (hv : bootBuiltins x = some v) (H : Q v s)
    (h1 : x ∉ startupNames) (h2 : x ∉ loose) (h3 : x ∉ (recsOf q).map (·.name)) (h4 : x ∉ (litsOf q).map (·.1)) (h4c : x ∉ (clssOf q loose).map (·.name)) (hn : x ≠ "__name__")
    (hk : env.scope.kind = .function) (hx : env.kindOf x = some .globalImplicit) (hg : env.globals = mainGlobals) (hb : env.builtins = builtinsNs) (hd : (x == ("__debug__" : Str)) = false) : wpAny M A (eval (.Name x pos) env) Q E s :=
  Calls.Name_function_global hk hx (Calls.loadGlobal_builtin (env := env) (mg := mg) (mb := mb) (by rw [hg]; exact T.g.keeps F.keep) (T.free x h1 h2 h3 h4 h4c) (by rw [hb]; exact T.b.keeps F.keep) ((T.builtins x hn).trans hv) H) hd
theorem chrE {M : Model} {s : Shared} {Q : Value → Shared → Prop} (F : Fr h₀ L s.heap m) (T : Top q loose mean mg mb h₀) (H : Q (.builtin "chr") s)
    (hk : env.scope.kind = .function) (hx : env.kindOf "chr" = some .globalImplicit) (hg : env.globals = mainGlobals) (hb : env.builtins = builtinsNs) : wpAny M A (eval (.Name "chr" pos) env) Q E s :=
  builtE F T (by kernel_rfl) H (by decide +kernel) (by decide +kernel) (by decide +kernel) (by decide +kernel) (by decide +kernel) (by decide +kernel) hk hx hg hb (by decide +kernel)
end
section
variable {prog : Program} {w : World} {A : Around} {s : Shared} {h₀ : Heap} {L : Addr} {m : Str → Option Value} {env : Env}
/-- a list comprehension with one test, by an invariant of the values made; the ledger behind stays -/
theorem comp_indT {ct elt : Expr} {x : Str} {scope : Scope} {cl : List (Str × Addr)} {S : List (Addr × Obj) → Prop} {P : Nat → Value → Prop} {Fin : List Value → List (Addr × Obj) → Prop} {news : List (Addr × Obj)} (n : Nat) (R : Nat → List Value → Prop) (hS : S news)
    (turn : ∀ i ys v I oI C oC D m₂ h tk (E' : Value → Shared → Prop), i < n → R i ys → P i v → LCg.NsObj oC m₂ → m₂ x = some v → Fr h₀ L h m → News h₀ L h ((I, oI) :: (C, oC) :: (D, LCg.lst ys) :: news) →
      wpAny (model prog w) A (isTrue ct (compEnvC scope cl C env) (eval ct (compEnvC scope cl C env))) (fun ok s' => if ok = true then
          wpAny (model prog w) A (eval elt (compEnvC scope cl C env)) (fun y s₂ => ∃ h' tk', s₂ = { s with heap := h', toks := tk' } ∧ Fr h₀ L h' m ∧ News h₀ L h' ((I, oI) :: (C, oC) :: (D, LCg.lst ys) :: news) ∧ R (i + 1) (ys ++ [y])) E' s'
        else ∃ h' tk', s' = { s with heap := h', toks := tk' } ∧ Fr h₀ L h' m ∧ News h₀ L h' ((I, oI) :: (C, oC) :: (D, LCg.lst ys) :: news) ∧ R (i + 1) ys) E' { s with heap := h, toks := tk })
    (fin : ∀ ys, R n ys → Fin ys news) : ∀ k i ys, i + k = n → R i ys → LCt.CompRestT prog w A h₀ L m env ct elt x scope cl s S P Fin k i ys news := by
  intro k
  induction k with
  | zero => intro i ys hi hR; obtain rfl : i = n := by omega
            exact LCt.CompRestT.zero (fin ys hR)
  | succ k ih =>
    intro i ys hi hR
    refine LCt.CompRestT.succ fun v I oI C oC D m₂ h tk E' hP hN hx F N off _ => ?_
    refine wpAny_mono (turn i ys v I oI C oC D m₂ h tk E' (by omega) hR hP hN hx F N) (fun ok s' hok => ?_) fun _ _ x => x
    cases ok with
    | true =>
      simp only [if_true] at hok ⊢
      refine wpAny_mono hok (fun y s₂ hy => ?_) fun _ _ x => x
      obtain ⟨h', tk', rfl, F', N', R'⟩ := hy
      exact LCg.CompEnd.intro F' N' news (fun p hp => hp) off hS (ih (i + 1) _ (by omega) R')
    | false =>
      simp only [Bool.false_eq_true, if_false] at hok ⊢
      obtain ⟨h', tk', rfl, F', N', R'⟩ := hok
      exact LCg.CompEnd.intro F' N' news (fun p hp => hp) off hS (ih (i + 1) _ (by omega) R')
end
section
local macro_rules | `(tactic| walk_at "loc") => `(tactic| first | rfl | assumption)
local macro_rules | `(tactic| walk_at "om") => `(tactic| first | omega | decide | (simp only [List.length_append, List.length_cons, List.length_nil, List.eraseIdx]; omega))
local macro_rules | `(tactic| walk_at "mem") => `(tactic| first | exact List.Mem.head _ | exact List.Mem.tail _ (List.Mem.head _) | exact List.Mem.tail _ (List.Mem.tail _ (List.Mem.head _)) | exact List.Mem.tail _ (List.Mem.tail _ (List.Mem.tail _ (List.Mem.head _))))
local macro_rules | `(tactic| walk_at "gl") => `(tactic| first
  | ((with_reducible show wpAny _ _ (eval (PySem.Expr.Name (PySem.Str.ofString "len") _) _) _ _ _); refine g_len (by assumption) (by assumption) ?_ rfl rfl)
  | ((with_reducible show wpAny _ _ (eval (PySem.Expr.Name (PySem.Str.ofString "chr") _) _) _ _ _); refine g_chr (by assumption) (by assumption) ?_ rfl rfl)
  | ((with_reducible show wpAny _ _ (eval (PySem.Expr.Name (PySem.Str.ofString "min") _) _) _ _ _); refine g_min (by assumption) (by assumption) ?_ rfl rfl)
  | ((with_reducible show wpAny _ _ (eval (PySem.Expr.Name (PySem.Str.ofString "abs") _) _) _ _ _); refine g_abs (by assumption) (by assumption) ?_ rfl rfl)
  | ((with_reducible show wpAny _ _ (eval (PySem.Expr.Name (PySem.Str.ofString "divmod") _) _) _ _ _); refine g_divmod (by assumption) (by assumption) ?_ rfl rfl)
  | ((with_reducible show wpAny _ _ (eval (PySem.Expr.Name (PySem.Str.ofString "ord") _) _) _ _ _); refine g_ord (by assumption) (by assumption) ?_ rfl rfl)
  | ((with_reducible show wpAny _ _ (eval (PySem.Expr.Name (PySem.Str.ofString "range") _) _) _ _ _); refine g_range (by assumption) (by assumption) ?_ rfl rfl)
  | ((with_reducible show wpAny _ _ (eval (PySem.Expr.Name (PySem.Str.ofString "bytes") _) _) _ _ _); refine g_bytes (by assumption) (by assumption) ?_ rfl rfl)
  | ((with_reducible show wpAny _ _ (eval (PySem.Expr.Name (PySem.Str.ofString "int") _) _) _ _ _); refine g_int (by assumption) (by assumption) ?_ rfl rfl)
  | ((with_reducible show wpAny _ _ (eval (PySem.Expr.Name (PySem.Str.ofString "ELLIPSIS_MARKER") _) _) _ _ _); refine g_marker (by assumption) (by assumption) ?_ rfl rfl; intro _))
local macro_rules | `(tactic| walk_at "defs") => `(tactic| first
  | ((with_reducible show wpAny _ _ (eval (PySem.Expr.Call (PySem.Expr.Name (PySem.Str.ofString "_ellipsis_match") _) _ _ _) _) _ _ _); refine callDef (recOf "_ellipsis_match") (by assumption) (by assumption) rec_ellipsis rfl rfl (by decide +kernel) rfl ?_; intro _ _)
  | ((with_reducible show wpAny _ _ (eval (PySem.Expr.Call (PySem.Expr.Name (PySem.Str.ofString "Int2AP") _) _ _ _) _) _ _ _); refine callDef (recOf "Int2AP") (by assumption) (by assumption) rec_Int2AP rfl rfl (by decide +kernel) rfl ?_; intro _ _)
  | ((with_reducible show wpAny _ _ (eval (PySem.Expr.Call (PySem.Expr.Name (PySem.Str.ofString "add") _) _ _ _) _) _ _ _); refine callDef (recOf "add") (by assumption) (by assumption) rec_add rfl rfl (by decide +kernel) rfl ?_; intro _ _)
  | ((with_reducible show wpAny _ _ (eval (PySem.Expr.Call (PySem.Expr.Name (PySem.Str.ofString "floordiv") _) _ _ _) _) _ _ _); refine callDef (recOf "floordiv") (by assumption) (by assumption) rec_floordiv rfl rfl (by decide +kernel) rfl ?_; intro _ _)
  | ((with_reducible show wpAny _ _ (eval (PySem.Expr.Call (PySem.Expr.Name (PySem.Str.ofString "lshift") _) _ _ _) _) _ _ _); refine callDef (recOf "lshift") (by assumption) (by assumption) rec_lshift rfl rfl (by decide +kernel) rfl ?_; intro _ _)
  | ((with_reducible show wpAny _ _ (eval (PySem.Expr.Call (PySem.Expr.Name (PySem.Str.ofString "mod") _) _ _ _) _) _ _ _); refine callDef (recOf "mod") (by assumption) (by assumption) rec_mod rfl rfl (by decide +kernel) rfl ?_; intro _ _)
  | ((with_reducible show wpAny _ _ (eval (PySem.Expr.Call (PySem.Expr.Name (PySem.Str.ofString "mul") _) _ _ _) _) _ _ _); refine callDef (recOf "mul") (by assumption) (by assumption) rec_mul rfl rfl (by decide +kernel) rfl ?_; intro _ _)
  | ((with_reducible show wpAny _ _ (eval (PySem.Expr.Call (PySem.Expr.Name (PySem.Str.ofString "sub") _) _ _ _) _) _ _ _); refine callDef (recOf "sub") (by assumption) (by assumption) rec_sub rfl rfl (by decide +kernel) rfl ?_; intro _ _)
  | ((with_reducible show wpAny _ _ (eval (PySem.Expr.Call (PySem.Expr.Name (PySem.Str.ofString "in_table_b1") _) _ _ _) _) _ _ _); refine callDef (recOf "in_table_b1") (by assumption) (by assumption) rec_in_b1 rfl rfl (by decide +kernel) rfl ?_; intro _ _)
  | ((with_reducible show wpAny _ _ (eval (PySem.Expr.Call (PySem.Expr.Name (PySem.Str.ofString "map_table_b3") _) _ _ _) _) _ _ _); refine callDef (recOf "map_table_b3") (by assumption) (by assumption) rec_map_b3 rfl rfl (by decide +kernel) rfl ?_; intro _ _)
  | ((with_reducible show wpAny _ _ (eval (PySem.Expr.Call (PySem.Expr.Name (PySem.Str.ofString "_law_spelled") _) _ _ _) _) _ _ _); refine callDef (recOf "_law_spelled") (by assumption) (by assumption) rec_spelled rfl rfl (by decide +kernel) rfl ?_; intro _ _)
  | ((with_reducible show wpAny _ _ (eval (PySem.Expr.Call (PySem.Expr.Name (PySem.Str.ofString "_law_asked") _) _ _ _) _) _ _ _); refine callDef (recOf "_law_asked") (by assumption) (by assumption) rec_asked rfl rfl (by decide +kernel) rfl ?_; intro _ _)
  | ((with_reducible show wpAny _ _ (eval (PySem.Expr.Call (PySem.Expr.Name (PySem.Str.ofString "_law_alike") _) _ _ _) _) _ _ _); refine callDef (recOf "_law_alike") (by assumption) (by assumption) rec_alike rfl rfl (by decide +kernel) rfl ?_; intro _ _)
  | ((with_reducible show wpAny _ _ (eval (PySem.Expr.Call (PySem.Expr.Name (PySem.Str.ofString "_law_order") _) _ _ _) _) _ _ _); refine callDef (recOf "_law_order") (by assumption) (by assumption) rec_order rfl rfl (by decide +kernel) rfl ?_; intro _ _))
local macro_rules | `(tactic| walk_at "ev") => `(tactic| first
  | with_reducible refine wpAny_execs_cons ?_
  | with_reducible refine wpAny_execs_nil ?_
  | with_reducible refine wpAny_BinOp ?_
  | with_reducible refine wpAny_Return_some ?_
  | with_reducible refine Tuple_ ?_
  | with_reducible refine List_ ?_
  | ((with_reducible show wpAny _ _ (eval (PySem.Expr.Name _ _) _) _ _ _); walk_at "gl")
  | ((with_reducible show wpAny _ _ (eval (PySem.Expr.Name _ _) _) _ _ _); refine ld (by assumption) (by walk_at "loc") ?_)
  | ((with_reducible show wpAny _ _ (eval (PySem.Expr.Constant (PySem.Const.int _) _ _) _) _ _ _); (first | refine constN ?_ | refine constI ?_); intro _ _)
  | ((with_reducible show wpAny _ _ (eval (PySem.Expr.Constant _ _ _) _) _ _ _); first | (refine constS ?_; intro _ _) | (refine constBy ?_; intro _ _) | refine Constant_bool ?_ | refine Constant_none ?_)
  | ((with_reducible show wpAny _ _ (eval (PySem.Expr.Call (PySem.Expr.Attribute _ _ _) _ _ _) _) _ _ _); refine MethodCall_ ?_)
  | ((with_reducible show wpAny _ _ (eval (PySem.Expr.Call (PySem.Expr.Name _ _) _ _ _) _) _ _ _); walk_at "defs")
  | ((with_reducible show wpAny _ _ (eval (PySem.Expr.Call (PySem.Expr.Name _ _) _ _ _) _) _ _ _); refine Call_ ?_)
  | ((with_reducible show wpAny _ _ (getMethod _ _ _) _ _ _); with_reducible first | refine GM.split ?_ | refine GM.startswith ?_ | refine GM.endswith ?_ | refine GM.find ?_ | refine GM.join ?_ | refine GM.lower ?_)
  | ((with_reducible show wpAny _ _ (getMethod (Value.ref _) (PySem.Str.ofString "append") _) _ _ _); refine gmApp (by assumption) (by walk_at "mem") ?_)
  | ((with_reducible show wpAny _ _ (call (Value.type "range") _) _ _ _); first | (with_unfolding_all refine rg1 (by assumption) (by assumption) ?_; intro _ _ _ _ _ _ _ _) | (with_unfolding_all refine rg2 (by assumption) (by assumption) ?_; intro _ _ _ _ _ _ _ _) | (with_unfolding_all refine rg3 (by assumption) (by assumption) ?_; intro _ _ _ _ _ _ _ _))
  | ((with_reducible show wpAny _ _ (call (Value.builtin "len") [Value.bytes _ _]) _ _ _); refine lenBy (by assumption) (by walk_at "om") ?_; intro _ _)
  | ((with_reducible show wpAny _ _ (callWith _ _ _ _ _) _ _ _); first | refine PyProof.Rows.callWith_builtin1 ?_ | refine PyProof.Rows.callWith_type1 ?_ | refine callWith_method0 ?_ | refine callWith_method1 ?_)
  | ((with_reducible show wpAny _ _ (exec (PySem.Stmt.If _ _ _ _) _) _ _ _); refine wpAny_If ?_)
  | ((with_reducible show wpAny _ _ (exec (PySem.Stmt.Expr _ _) _) _ _ _); refine wpAny_Expr ?_)
  | ((with_reducible show wpAny _ _ (eval (PySem.Expr.Compare _ _ _ _) _) _ _ _); refine wpAny_Compare1 ?_)
  | ((with_reducible show wpAny _ _ (eval (PySem.Expr.Subscript _ _ _) _) _ _ _); refine Subscript_ ?_)
  | ((with_reducible show wpAny _ _ (eval (PySem.Expr.IfExp _ _ _ _) _) _ _ _); refine IfExp_ ?_)
  | ((with_reducible show wpAny _ _ (exec (PySem.Stmt.Assert _ _ _) _) _ _ _); refine wpAny_Assert_holds ?_)
  | ((with_reducible show wpAny _ _ (exec (PySem.Stmt.Delete _ _) _) _ _ _); refine wpAny_Delete ?_)
  | ((with_reducible show wpAny _ _ (deleteEach (_ :: _) _) _ _ _); refine wpAny_deleteEach_cons ?_)
  | ((with_reducible show wpAny _ _ (deleteEach [] _) _ _ _); refine wpAny_deleteEach_nil ?_)
  | ((with_reducible show wpAny _ _ (delete (PySem.Expr.Subscript _ _ _) _) _ _ _); refine PyProof.Rows.delete_Subscript ?_)
  | ((with_reducible show wpAny _ _ (call (Value.builtin "len") [Value.str _ _]) _ _ _); refine lenT (by walk_at "om") ?_; intro _ _)
  | ((with_reducible show wpAny _ _ (call (Value.builtin "len") [Value.ref _]) _ _ _); refine lenL (by assumption) (by walk_at "mem") (by walk_at "om") ?_; intro _ _)
  | ((with_reducible show wpAny _ _ (call (Value.builtin "abs") [Value.int (Nat.cast _) _]) _ _ _); refine absN ?_; intro _ _)
  | ((with_reducible show wpAny _ _ (call (Value.type "int") [Value.int _ _]) _ _ _); refine call_int_int ?_)
  | ((with_reducible show wpAny _ _ (call (Value.builtin "divmod") _) _ _ _); refine dmN (by assumption) (by assumption) (by walk_at "om") (by walk_at "om") ?_; intro _ _ _ _ _ _)
  | with_reducible refine wpAny_Slice ?_
  | with_reducible refine evalPart_none_step ?_
  | with_reducible refine evalPart_some_step ?_
  | ((with_reducible show wpAny _ _ (assign (PySem.Expr.Name _ _) _ _) _ _ _); refine wpAny_assign_Name ?_)
  | ((with_reducible show wpAny _ _ (assign (PySem.Expr.Tuple _ _ _) _ (Value.ref _)) _ _ _); refine asgPair (by assumption) (by assumption) (by assumption) rfl rfl ?_; intro _ _ _)
  | ((with_reducible show wpAny _ _ (eval (PySem.Expr.UnaryOp _ _ _) _) _ _ _); refine UnaryOp_ ?_)
  | ((with_reducible show wpAny _ _ (subscriptTail _ _ (Value.ref _) (Value.int (-_) _)) _ _ _); refine itemB (by assumption) (by walk_at "mem") (by first | decide | simp) (by first | decide | simp) (by rfl) ?_)
  | ((with_reducible show wpAny _ _ (subscriptTail _ _ (Value.ref _) (Value.int (Nat.cast _) _)) _ _ _); refine itemL (by assumption) (by walk_at "mem") (by rfl) ?_)
  | ((with_reducible show wpAny _ _ (unaryOp _ _) _ _ _); refine neg_I ?_; intro _ _)
  | ((with_reducible show wpAny _ _ (spliced _) _ _ _); first | refine spliced_more ?_ | refine spliced_none ?_)
  | ((with_reducible show wpAny _ _ (exec (PySem.Stmt.Assign [PySem.Expr.Name _ _] _ _) _) _ _ _); refine wpAny_Assign_Name ?_)
  | ((with_reducible show wpAny _ _ (exec (PySem.Stmt.AugAssign (PySem.Expr.Name _ _) _ _ _) _) _ _ _); refine wpAny_AugAssign_Name ?_)
  | ((with_reducible show wpAny _ _ (exec (PySem.Stmt.AugAssign (PySem.Expr.Subscript _ _ _) _ _ _) _) _ _ _); refine wpAny_AugAssign_SubscriptAny ?_)
  | ((with_reducible show wpAny _ _ (loadName _ _) _ _ _); refine ldn (by assumption) (by walk_at "loc") ?_)
  | ((with_reducible show wpAny _ _ (exec (PySem.Stmt.Assign [PySem.Expr.Tuple _ _ _] _ _) _) _ _ _); first | refine Assign_Tuple_swapped ?_ | refine Assign_Tuple ?_)
  | ((with_reducible show wpAny _ _ (newTuple _) _ _ _); refine newTup (by assumption) (by assumption) rfl ?_; intro _ _ _)
  | ((with_reducible show wpAny _ _ (newList _) _ _ _); refine newLk (by assumption) (by assumption) rfl ?_; intro _ _ _ _ _)
  | ((with_reducible show wpAny _ _ (unpackItems _ _ _) _ _ _); refine unpackPair (by assumption) (by assumption) (by assumption) ?_; intro _ _ _)
  | ((with_reducible show wpAny _ _ (assignInOrder _ _) _ _ _); first | refine assignInOrder_cons ?_ | refine assignInOrder_nil ?_)
  | ((with_reducible show wpAny _ _ (bindName _ _ _) _ _ _); refine bindName_ ?_)
  | ((with_reducible show wpAny _ _ (storeName _ _ _) _ _ _); refine stR (by assumption) (by assumption) rfl rfl ?_; intro _ _ _ _; (try k_sweep))
  | ((with_reducible show wpAny _ _ (binaryOp _ _ _) _ _ _); (first | with_reducible refine add_nat ?_ | with_reducible refine add_I ?_ | with_reducible refine mod_nat (by walk_at "om") ?_ | with_reducible refine div_nat (by walk_at "om") ?_ (by walk_at "om") | with_reducible refine mul_nat ?_ (by walk_at "om") | with_reducible refine sub_nat (by walk_at "om") ?_ | with_reducible refine sub_I ?_ | with_reducible refine addT ?_ (by walk_at "om")); intro _ _)
  | ((with_reducible show wpAny _ _ (inplaceOp _ _ _) _ _ _); (first | with_reducible refine iadd_nat ?_ | with_reducible refine iaddI ?_ | with_reducible refine isub_nat (by walk_at "om") ?_); intro _ _)
  | ((with_reducible show wpAny _ _ (compareOp _ _ _) _ _ _); first | with_reducible refine ne_nat ?_ | with_reducible refine eq_nat ?_ | with_reducible refine lt_nat ?_ | with_reducible refine gt_nat ?_ | with_reducible refine ge_nat ?_ | with_reducible refine gt_I ?_ | with_reducible refine is_bool ?_ | with_reducible refine isnot_bool ?_ | with_reducible refine isnot_str_none ?_ | with_reducible refine isnot_none_none ?_)
  | ((with_reducible show wpAny _ _ (truthy _) _ _ _); first | with_reducible refine wpAny_truthy_bool ?_ | (with_reducible refine truthyT (by walk_at "om") ?_; intro _) | with_reducible refine truthy_nat ?_)
  | ((with_reducible show wpAny _ _ (PySem.isTrue (PySem.Expr.Compare _ _ _ _) _ _) _ _ _); refine wpAny_isTrue_Compare1 ?_)
  | ((with_reducible show wpAny _ _ (PySem.isTrue _ _ _) _ _ _); refine isTrue_plain ?_)
  | ((with_reducible show Rt _ _ _ _ _ _ _); refine Rt.intro (by assumption) ?_))
/-! part order -/
section
variable {prog : Program} {w : World} {mean : ExcName → Option Value} {mg mb : Str → Option Value}
theorem order_spec {k : Nat} {top whole : Nat} {t u : Tok} (hk : k ≤ 10) (hw : 0 < whole) (hw' : whole < 1048576) (htop : top < 1048576) (n : Nat) (hn : 1 ≤ n)
    (h1 : 16 ^ n % (whole / Nat.gcd whole top) = 1 % (whole / Nat.gcd whole top)) (h2 : ∀ j, 1 ≤ j → j < n → 16 ^ j % (whole / Nat.gcd whole top) ≠ 1 % (whole / Nat.gcd whole top)) :
    Cn prog w mean mg mb k (recOf "_law_order") [.int top t, .int whole u] (fun _ => True) (fun v _ _ => ∃ t, v = .int n t) := by
  refine enter [("top", .int top t), ("whole", .int whole u)] rfl hk (fun _ _ _ => rfl) (by rfl) rfl rfl rfl (by decide) ?_
  intro A base h₀ outer L c cdv h g dr tk o B F N T X lv hh _
  repeat' walk_at "ev"
  -- the while of the common divisor
  refine whileR (fun j m _ => ∃ (x y : Nat) (tx ty : Tok), m "common" = some (.int x tx) ∧ m "rest" = some (.int y ty) ∧ m "whole" = some (.int whole u) ∧ Nat.gcd x y = Nat.gcd whole top ∧ y = j ∧ x < 1048576 ∧ y < 1048576) top
    (by assumption) (by assumption) ⟨whole, top, u, t, rfl, rfl, rfl, rfl, rfl, hw', htop⟩ ?_
  rintro j m₁ news₁ h₁ tk₁ F₁ N₁ ⟨x, y, tx, ty, e1, e2, e3, hg, rfl, hx, hy⟩
  repeat' walk_at "ev"
  refine ifB (fun hy0 => ?_) (fun hy0 => ?_)
  · have hy1 : 0 < y := by simp at hy0; omega
    repeat' walk_at "ev"
    refine WStep.intro (x % y) (by assumption) (by assumption) (Nat.mod_lt _ hy1) ?_
    refine ⟨y, x % y, _, _, rfl, rfl, e3, ?_, rfl, hy, by have := Nat.mod_lt x hy1; omega⟩
    rw [← hg, Nat.gcd_comm x y, Nat.gcd_rec y x, Nat.gcd_comm]
  · obtain rfl : y = 0 := by simpa using hy0
    have hx0 : x = whole.gcd top := by simpa using hg
    have hxp : 0 < x := by rw [hx0]; exact Nat.gcd_pos_of_pos_left _ hw
    have hb : 0 < whole / x := Nat.div_pos (by rw [hx0]; exact Nat.gcd_le_left _ hw) hxp
    have hb' : whole / x < 1048576 := Nat.lt_of_le_of_lt (Nat.div_le_self _ _) hw'
    rw [← hx0] at h1 h2
    repeat' walk_at "ev"
    refine whileR (fun j m _ => ∃ (i : Nat) (tb to tp : Tok), m "bottom" = some (.int ((whole / x : Nat) : Int) tb) ∧ m "order" = some (.int i to) ∧ m "power" = some (.int ((16 ^ i % (whole / x) : Nat) : Int) tp) ∧ 1 ≤ i ∧ i ≤ n ∧ j = n - i) (n - 1)
      (by assumption) (by assumption) ?_ ?_
    · exact ⟨1, _, _, _, rfl, rfl, rfl, Nat.le_refl _, hn, rfl⟩
    rintro j m₁ news₁ h₁ tk₁ F₁ N₁ ⟨i, tb, to, tp, e1, e2, e3, hi1, hin, rfl⟩
    repeat' walk_at "ev"
    refine ifB (fun hy0 => ?_) (fun hy0 => ?_)
    · have hne : 16 ^ i % (whole / x) ≠ 1 % (whole / x) := by simpa using hy0
      have hlt : i < n := by
        rcases Nat.lt_or_ge i n with h | h
        · exact h
        · exfalso; obtain rfl : i = n := by omega
          exact hne h1
      repeat' walk_at "ev"
      refine WStep.intro (n - (i + 1)) (by assumption) (by assumption) (Nat.sub_lt_sub_left hlt (Nat.lt_succ_self i)) ?_
      have e : 16 ^ (i + 1) % (whole / x) = 16 ^ i % (whole / x) * 16 % (whole / x) := by rw [Nat.pow_succ, Nat.mod_mul_mod]
      exact ⟨i + 1, tb, _, _, e1, rfl, by rw [e]; rfl, by omega, by omega, rfl⟩
    · have he : 16 ^ i % (whole / x) = 1 % (whole / x) := by simpa using hy0
      have hin' : i = n := by
        rcases Nat.lt_or_ge i n with h | h
        · exact absurd he (h2 i hi1 h)
        · omega
      repeat' walk_at "ev"
      exact ⟨_, by rw [hin']⟩
end
/-! part ellipsis -/
noncomputable def tm (f got : List Nat) : Bool := decide (f.length ≤ got.length) && (got.take f.length == f) && (got.drop (got.length - f.length) == f) && decide (2 * f.length ≤ got.length)
theorem startswith_tx (x y : List Nat) : Txt.startswith (tx x) (tx y) = (decide (y.length ≤ x.length) && (x.take y.length == y)) := by
  unfold Txt.startswith
  rw [StrLaws.subAt_eq, tx_length, tx_length, Nat.zero_add]
  simp [tx]
theorem endswith_tx (x y : List Nat) : Txt.endswith (tx x) (tx y) = (decide (y.length ≤ x.length) && (x.drop (x.length - y.length) == y)) := by
  unfold Txt.endswith
  rw [StrLaws.subAt_eq, tx_length, tx_length, Nat.zero_add]
  by_cases h : y.length ≤ x.length
  · have : (x.drop (x.length - y.length)).take y.length = x.drop (x.length - y.length) := List.take_of_length_le (by simp; omega)
    simp [tx, this]
  · simp [h]
section
variable {prog : Program} {w : World} {mean : ExcName → Option Value} {mg mb : Str → Option Value}
theorem ellipsis_spec {k : Nat} {f got : List Nat} {t u : Tok} (hk : k ≤ 10) (hf : ∀ c ∈ f, c ≠ 46) (hf0 : 0 < f.length) (hfl : f.length ≤ 1000) (hgl : got.length ≤ 1000) :
    Cn prog w mean mg mb k (recOf "_ellipsis_match") [.str (tx (f ++ [46, 46, 46] ++ f)) t, .str (tx got) u] (fun _ => True) (fun v _ _ => v = .bool (tm f got)) := by
  refine enter [("want", .str (tx (f ++ [46, 46, 46] ++ f)) t), ("got", .str (tx got) u)] rfl hk (fun _ _ _ => rfl) (by rfl) rfl rfl rfl (by decide) ?_
  intro A base h₀ outer L c cdv h g dr tk o B F N T X lv hh _
  repeat' walk_at "ev"
  refine notIn_str ?_
  rw [occ_dots f hf 1 (Nat.le_refl _)]
  repeat' walk_at "ev"
  refine ifB (fun hx => nomatch hx) (fun _ => ?_)
  repeat' walk_at "ev"
  refine split2 (by assumption) (by assumption) rfl (split_dots f hf) (by rw [tx_length]; walk_at "om") ?_
  intro D ta tb h1 tk1 F1 N1 _
  repeat' walk_at "ev"
  refine ⟨rfl, ?_⟩
  repeat' walk_at "ev"
  refine ifB (fun _ => ?_) (fun hx => by simp at hx; subst hx; simp at hf0)
  repeat' walk_at "ev"
  refine SC.startswith ?_
  rw [startswith_tx]
  repeat' walk_at "ev"
  refine ifB (fun hs => ?_) (fun hs => ?_)
  · repeat' walk_at "ev"
    refine delAt 0 (by assumption) (by assumption) (by intro p hp; cases hp) rfl rfl rfl ?_
    intro h2 F2 N2
    (try k_sweep)
    have N3 : News h₀ L h2 [(D, W.listOf [Value.str (tx f) tb].toArray 1)] := N2
    clear N2
    repeat' walk_at "ev"
    refine ifB (fun _ => ?_) (fun hx => by simp at hx; subst hx; simp at hf0)
    repeat' walk_at "ev"
    refine SC.endswith ?_
    rw [endswith_tx]
    repeat' walk_at "ev"
    refine ifB (fun hs2 => ?_) (fun hs2 => ?_)
    · have hle : f.length ≤ got.length := by simp at hs; exact hs.1
      repeat' walk_at "ev"
      refine delAt 0 (by assumption) (by assumption) (by intro p hp; cases hp) rfl rfl rfl ?_
      intro h2 F2 N2
      (try k_sweep)
      have N3 : News h₀ L h2 [(D, W.listOf ([] : List Value).toArray 2)] := N2
      clear N2
      repeat' walk_at "ev"
      refine ifB (fun hgt => ?_) (fun hgt => ?_)
      · repeat' walk_at "ev"
        rw [Value.bool.injEq]
        simp [tm] at hs hs2 hgt ⊢
        omega
      · repeat' walk_at "ev"
        refine For_invV h₀ rfl rfl ?_ (by intro _; rfl) PassesOwn.never
        repeat' walk_at "ev"
        refine iterNil (by assumption) (by assumption) (by assumption) (by intro p hp; cases hp) ?_
        intro h3 tk3 F3 N4
        repeat' walk_at "ev"
        rw [Value.bool.injEq]
        simp [tm] at hs hs2 hgt ⊢
        refine ⟨⟨⟨hs.1, hs.2⟩, hs2.2⟩, by omega⟩
    · repeat' walk_at "ev"
      rw [Value.bool.injEq]
      simp [tm] at hs hs2 ⊢
      intro h1 _ h3
      exact absurd h3 (hs2 h1)
  · repeat' walk_at "ev"
    rw [Value.bool.injEq]
    simp [tm] at hs ⊢
    intro h1 h2
    exact absurd h2 (hs h1)
end
/-! part ops -/
section
variable {prog : Program} {w : World} {mean : ExcName → Option Value} {mg mb : Str → Option Value}
theorem add_spec {k a b : Nat} {t u : Tok} (hk : k ≤ 10) : Cn prog w mean mg mb k (recOf "add") [.int (a : Int) t, .int (b : Int) u] (fun _ => True) (fun v _ _ => ∃ t, v = .int ((a + b : Nat) : Int) t) := by
  refine enter [("a", .int (a : Int) t), ("b", .int (b : Int) u)] rfl hk (fun _ _ _ => rfl) (by rfl) rfl rfl rfl (by decide) ?_
  intro A base h₀ outer L c cdv h g dr tk o B F N T X lv hh _
  repeat' walk_at "ev"
  exact ⟨_, rfl⟩
theorem sub_spec {k a b : Nat} {t u : Tok} (hk : k ≤ 10) (hab : b ≤ a) : Cn prog w mean mg mb k (recOf "sub") [.int (a : Int) t, .int (b : Int) u] (fun _ => True) (fun v _ _ => ∃ t, v = .int ((a - b : Nat) : Int) t) := by
  refine enter [("a", .int (a : Int) t), ("b", .int (b : Int) u)] rfl hk (fun _ _ _ => rfl) (by rfl) rfl rfl rfl (by decide) ?_
  intro A base h₀ outer L c cdv h g dr tk o B F N T X lv hh _
  repeat' walk_at "ev"
  exact ⟨_, rfl⟩
theorem mul_spec {k a b : Nat} {t u : Tok} (hk : k ≤ 10) (hb : b < 1073741824) : Cn prog w mean mg mb k (recOf "mul") [.int (a : Int) t, .int (b : Int) u] (fun _ => True) (fun v _ _ => ∃ t, v = .int ((a * b : Nat) : Int) t) := by
  refine enter [("a", .int (a : Int) t), ("b", .int (b : Int) u)] rfl hk (fun _ _ _ => rfl) (by rfl) rfl rfl rfl (by decide) ?_
  intro A base h₀ outer L c cdv h g dr tk o B F N T X lv hh _
  repeat' walk_at "ev"
  exact ⟨_, rfl⟩
theorem mod_spec {k a b : Nat} {t u : Tok} (hk : k ≤ 10) (hb : 0 < b) : Cn prog w mean mg mb k (recOf "mod") [.int (a : Int) t, .int (b : Int) u] (fun _ => True) (fun v _ _ => ∃ t, v = .int ((a % b : Nat) : Int) t) := by
  refine enter [("a", .int (a : Int) t), ("b", .int (b : Int) u)] rfl hk (fun _ _ _ => rfl) (by rfl) rfl rfl rfl (by decide) ?_
  intro A base h₀ outer L c cdv h g dr tk o B F N T X lv hh _
  repeat' walk_at "ev"
  exact ⟨_, rfl⟩
theorem div_spec {k a b : Nat} {t u : Tok} (hk : k ≤ 10) (hb : 0 < b) (hb' : b < 1073741824) : Cn prog w mean mg mb k (recOf "floordiv") [.int (a : Int) t, .int (b : Int) u] (fun _ => True) (fun v _ _ => ∃ t, v = .int ((a / b : Nat) : Int) t) := by
  refine enter [("a", .int (a : Int) t), ("b", .int (b : Int) u)] rfl hk (fun _ _ _ => rfl) (by rfl) rfl rfl rfl (by decide) ?_
  intro A base h₀ outer L c cdv h g dr tk o B F N T X lv hh _
  repeat' walk_at "ev"
  exact ⟨_, rfl⟩
end
/-! part B5b -/
section
variable {prog : Program} {w : World} {mean : ExcName → Option Value} {mg mb : Str → Option Value}
theorem lsh_spec {k a n : Nat} {t u : Tok} (hk : k ≤ 10) (hn : n ≤ 1000000) (ha : a < 2 ^ 64) : Cn prog w mean mg mb k (recOf "lshift") [.int (a : Int) t, .int (n : Int) u] (fun _ => True) (fun v _ _ => ∃ t, v = .int ((a * 2 ^ n : Nat) : Int) t) := by
  refine enter [("a", .int (a : Int) t), ("b", .int (n : Int) u)] rfl hk (fun _ _ _ => rfl) (by rfl) rfl rfl rfl (by decide) ?_
  intro A base h₀ outer L c cdv h g dr tk o B F N T X lv hh _
  repeat' walk_at "ev"
  refine lshN hn ha ?_
  intro _ _
  repeat' walk_at "ev"
  exact ⟨_, rfl⟩
theorem inb1_spec {k c : Nat} {t : Tok} (hk : k ≤ 10) : Cn prog w mean mg mb k (recOf "in_table_b1") [.str (tx [c]) t] (fun _ => True) (fun v _ _ => v = .bool (decide ((c : Int) ∈ b1L))) := by
  refine enter [("code", .str (tx [c]) t)] rfl hk (fun _ _ _ => rfl) (by rfl) rfl rfl rfl (by decide) ?_
  intro A base h₀ outer L c cdv h g dr tk o B F N T X lv hh _
  obtain ⟨sa, S, sn, hsa, hS, hSc⟩ := X.b1
  repeat' walk_at "ev"
  refine ordT ?_
  intro _ _
  repeat' walk_at "ev"
  refine tp_bound F T hsa ?_ rfl rfl
  repeat' walk_at "ev"
  refine inB1 F hS ?_
  intro _
  rw [hSc]
  repeat' walk_at "ev"
  rfl
theorem lower_is : ∀ i, i < 16 → Txt.lower (tx [65 + i]) = tx [97 + i] ∧ Txt.lower (tx [97 + i]) = tx [97 + i] := by
  have : (List.range 16).all (fun i => decide (Txt.lower (tx [65 + i]) = tx [97 + i] ∧ Txt.lower (tx [97 + i]) = tx [97 + i])) = true := by decide +kernel
  intro i hi
  simpa using List.all_eq_true.mp this i (List.mem_range.mpr hi)
theorem mapb3_spec {k c i : Nat} {t : Tok} (hk : k ≤ 10) (hi : i < 16) (hc : c = 65 + i ∨ c = 97 + i ∨ ∃ j ∈ ([0, 1, 2, 4, 7, 8, 9, 10, 11, 12] : List Nat), c = 119808 + i + 52 * j) :
    Cn prog w mean mg mb k (recOf "map_table_b3") [.str (tx [c]) t] (fun _ => True) (fun v _ _ => ∃ t, v = .str (tx [97 + i]) t) := by
  refine enter [("code", .str (tx [c]) t)] rfl hk (fun _ _ _ => rfl) (by rfl) rfl rfl rfl (by decide) ?_
  intro A base h₀ outer L a cdv h g dr tk o B F N T X lv hh _
  obtain ⟨da, D, hda, hD, hlo, hal⟩ := X.b3
  repeat' walk_at "ev"
  refine tp_bound F T hda ?_ rfl rfl
  refine getMethod_intTab_get (hD.keep F.keep) ?_
  repeat' walk_at "ev"
  refine ordT ?_
  intro _ _
  repeat' walk_at "ev"
  refine call_get1_intTab (hD.keep F.keep) ?_
  intro v hv
  by_cases hb : c < 181
  · rw [hlo _ (by omega)] at hv
    obtain rfl := hv.none_inv
    repeat' walk_at "ev"
    refine ifB (fun hx => nomatch hx) (fun _ => ?_)
    repeat' walk_at "ev"
    refine lowerT (d := 97 + i) ?_ ?_
    · rcases hc with rfl | rfl | ⟨j, _, rfl⟩
      · exact (lower_is i hi).1
      · exact (lower_is i hi).2
      · omega
    intro _ _
    repeat' walk_at "ev"
    exact ⟨_, rfl⟩
  · have hj : ∃ j ∈ ([0, 1, 2, 4, 7, 8, 9, 10, 11, 12] : List Nat), c = 119808 + i + 52 * j := by
      rcases hc with rfl | rfl | hj
      · omega
      · omega
      · exact hj
    obtain ⟨j, hj, rfl⟩ := hj
    rw [hal j hj i hi] at hv
    obtain ⟨tv, rfl⟩ := hv.str_inv
    repeat' walk_at "ev"
    refine ifB (fun _ => ?_) (fun hx => nomatch hx)
    repeat' walk_at "ev"
    exact ⟨_, rfl⟩
end
/-! part ap -/
/-- the value of figures to the base 16 -/
noncomputable def hexv : List Nat → Nat → Nat
  | [], a => a
  | d :: r, a => hexv r (16 * a + d)
noncomputable def apI (ds : List Nat) : List Int := ds.map fun d => ((65 + d : Nat) : Int)
section
variable {prog : Program} {w : World} {mean : ExcName → Option Value} {mg mb : Str → Option Value}
theorem hexv_snoc (l : List Nat) (d : Nat) : ∀ a, hexv (l ++ [d]) a = 16 * hexv l a + d := by
  induction l with
  | nil => intro a; rfl
  | cons x r ih => intro a; exact ih _
theorem hexv_pos (l : List Nat) : ∀ a, 0 < a → 0 < hexv l a := by
  induction l with
  | nil => intro a h; exact h
  | cons x r ih => intro a h; exact ih _ (by omega)
theorem ap_pick : ∀ d, d < 16 → ((apI [0, 1, 2, 3, 4, 5, 6, 7, 8, 9, 10, 11, 12, 13, 14, 15]).drop ((some ((d : Nat) : Int)).elim 0 (clipAt 16))).take ((some ((d + 1 : Nat) : Int)).elim 16 (clipAt 16) - (some ((d : Nat) : Int)).elim 0 (clipAt 16)) = [((65 + d : Nat) : Int)] := by
  intro d hd
  simp only [Option.elim, clip_nat]
  have : ∀ d, d < 16 → ((apI [0, 1, 2, 3, 4, 5, 6, 7, 8, 9, 10, 11, 12, 13, 14, 15]).drop (min d 16)).take (min (d + 1) 16 - min d 16) = [((65 + d : Nat) : Int)] := by decide
  exact this d hd
theorem ap_spec {k : Nat} {rest : List Nat} {t : Tok} (hk : k ≤ 10) (hr : ∀ d ∈ rest, d < 16) (hl : rest.length ≤ 100) :
    Cn prog w mean mg mb k (recOf "Int2AP") [.int (hexv (1 :: rest) 0 : Nat) t] (fun _ => True) (fun v _ _ => ∃ b t, v = .bytes b t ∧ KBw.bInts b = apI (1 :: rest)) := by
  refine enter [("num", .int (hexv (1 :: rest) 0 : Nat) t)] rfl hk (fun _ _ _ => rfl) (by rfl) rfl rfl rfl (by decide) ?_
  intro A base h₀ outer L a cdv h g dr tk o B F N T X lv hh _
  repeat' walk_at "ev"
  refine whileR (fun j m _ => ∃ (tn tv ta : Tok) (b : Array UInt8), m "num" = some (.int (hexv ((1 :: rest).take j) 0 : Nat) tn) ∧ m "val" = some (.bytes b tv) ∧ m "AP" = some (.bytes [65, 66, 67, 68, 69, 70, 71, 72, 73, 74, 75, 76, 77, 78, 79, 80].toArray ta) ∧ KBw.bInts b = apI ((1 :: rest).drop j) ∧ j ≤ rest.length + 1) (rest.length + 1)
    (by assumption) (by assumption) ?_ ?_
  · have e0 : (1 :: rest).take (rest.length + 1) = 1 :: rest := List.take_of_length_le (by simp)
    have e1 : (1 :: rest).drop (rest.length + 1) = [] := List.drop_of_length_le (by simp)
    show ∃ (tn tv ta : Tok) (b : Array UInt8), _ ∧ _ ∧ _ ∧ _ ∧ _
    rw [e0, e1]
    exact ⟨_, _, _, #[], rfl, rfl, rfl, rfl, Nat.le_refl _⟩
  rintro j m₁ news₁ h₁ tk₁ F₁ N₁ ⟨tn, tv, ta, b, e1, e2, e3, eb, hj⟩
  repeat' walk_at "ev"
  refine ifB (fun hy0 => ?_) (fun hy0 => ?_)
  · repeat' walk_at "ev"
    obtain ⟨j, rfl⟩ : ∃ i, j = i + 1 := by
      cases j with
      | zero => simp [hexv] at hy0
      | succ i => exact ⟨i, rfl⟩
    have hjl : j < (1 :: rest).length := by simp; omega
    have hlt : (1 :: rest)[j] < 16 := by
      rcases List.mem_cons.mp (List.getElem_mem hjl) with h | h
      · rw [h]; decide
      · exact hr _ h
    have et : (1 :: rest).take (j + 1) = (1 :: rest).take j ++ [(1 :: rest)[j]] := List.take_succ_eq_append_getElem hjl
    have ed : (1 :: rest).drop j = (1 :: rest)[j] :: (1 :: rest).drop (j + 1) := List.drop_eq_getElem_cons hjl
    generalize hdig : (1 :: rest)[j] = d at *
    have ev : hexv ((1 :: rest).take (j + 1)) 0 = 16 * hexv ((1 :: rest).take j) 0 + d := by rw [et, hexv_snoc]
    have eq : hexv ((1 :: rest).take (j + 1)) 0 / 16 = hexv ((1 :: rest).take j) 0 := by omega
    have em : hexv ((1 :: rest).take (j + 1)) 0 % 16 = d := by omega
    refine slB (ks := apI [0, 1, 2, 3, 4, 5, 6, 7, 8, 9, 10, 11, 12, 13, 14, 15]) (by assumption) (by assumption) rfl (.int _ _) (.int _ _) (by decide) ?_
    intro b1 t1 h2 tk2 F2 N2 eb1
    repeat' walk_at "ev"
    refine addB eb1 eb ?_ ?_
    · simp [apI]; omega
    intro b2 t2 tk3 eb2
    repeat' walk_at "ev"
    refine WStep.intro j (by assumption) (by assumption) (Nat.lt_succ_self _) ?_
    rw [eq, em] at *
    rw [← eq]
    refine ⟨_, _, ta, b2, rfl, rfl, e3, ?_, by omega⟩
    rw [eb2, ed, show (apI [0, 1, 2, 3, 4, 5, 6, 7, 8, 9, 10, 11, 12, 13, 14, 15]).length = 16 from rfl, ap_pick d hlt]
    rfl
  · obtain rfl : j = 0 := by
      cases j with
      | zero => rfl
      | succ i =>
        have h0 : hexv ((1 :: rest).take (i + 1)) 0 = 0 := by simpa using hy0
        exact absurd h0 (Nat.ne_of_gt (hexv_pos (rest.take i) 1 (by decide)))
    repeat' walk_at "ev"
    exact ⟨b, _, rfl, eb⟩
end
/-! part spelled -/
noncomputable def alphs : List Nat := [0, 1, 2, 4, 7, 8, 9, 10, 11, 12]
noncomputable def unseen : List Nat := [173, 8203, 8288, 65279]
noncomputable def sty (xs : List Nat) (p : Nat) : Nat := (xs.getD (p % 5) 0 / 16 + p) % 12
noncomputable def ltr (d s : Nat) : Nat := if s < 2 then 65 + d + 32 * s else 65 + d + (119743 + 52 * alphs.getD (s - 2) 0)
noncomputable def sgn (d s : Nat) : List Nat := (if s % 3 = 0 then [unseen.getD (s / 3) 0] else []) ++ [ltr d s]
noncomputable def spell (ds xs : List Nat) : Nat → List Nat
  | 0 => []
  | p + 1 => spell ds xs p ++ sgn (ds.getD p 0) (sty xs p)
theorem off3 {a1 a2 a3 : Addr} {x y : Obj} {own : List (Addr × Obj)} (h32 : a3 ≠ a2) (h31 : a3 ≠ a1) (ho : OwnOff own [a3, a2, a1]) : ∀ p ∈ [(a2, x), (a1, y)] ++ own, p.1 ≠ a3 := by
  intro p hp
  rcases List.mem_append.mp hp with hp | hp
  · simp only [List.mem_cons, List.not_mem_nil, or_false] at hp
    rcases hp with rfl | rfl
    · exact h32.symm
    · exact h31.symm
  · exact ho p hp a3 (.head _)
theorem alph_le : ∀ i, i < 10 → alphs.getD i 0 ≤ 12 := by decide
theorem unseen_le : ∀ i, i < 4 → unseen.getD i 0 ≤ 65279 := by decide
section
variable {prog : Program} {w : World} {mean : ExcName → Option Value} {mg mb : Str → Option Value}
theorem spelled_spec {k : Nat} {ds xs : List Nat} {b : Array UInt8} {t : Tok} {D : Addr} {vs : List Value} (hk : k ≤ 9) (hb : KBw.bInts b = ds.map fun d => ((65 + d : Nat) : Int)) (hds : ∀ d ∈ ds, d < 16) (hl : ds.length ≤ 100) (hxl : xs.length = 5) (hv : Nats vs xs) :
    Cn prog w mean mg mb k (recOf "_law_spelled") [.bytes b t, .ref D] (fun h => h.IsList D vs.toArray)
      (fun v h h' => ∃ a ws n, v = .ref a ∧ h'.get? a = some (listOf ws.toArray n) ∧ h.get? a = none ∧ Chrs ws (spell ds xs ds.length)) := by
  refine enter [("word", .bytes b t), ("drawn", .ref D)] rfl (by omega) (fun _ _ _ => rfl) (by rfl) rfl rfl rfl (by decide) ?_
  intro A base h₀ outer L a cdv h g dr tk o B F N T X lv hh hD
  have hbl : (ds.map fun d => ((65 + d : Nat) : Int)).length ≤ 1000000 := by simp; omega
  repeat' walk_at "ev"
  refine For_invV h₀ rfl rfl ?_ (by intro _; rfl) PassesOwn.never
  repeat' walk_at "ev"
  rw [List.length_map] at *
  have hl3 := ‹∀ p ∈ [(_, W.listOf _ _), (_, W.listOf _ _)], p.1 < _›
  refine iterUp (a := 0) (b := ds.length) (fun i m nx => ∃ (a1 a2 a3 : Addr) (va vu ws : List Value) (n : Nat), nx = [(a3, listOf ws.toArray n), (a2, listOf vu.toArray 0), (a1, listOf va.toArray 0)] ∧ a3 ≠ a2 ∧ a3 ≠ a1 ∧ Nats va alphs ∧ Nats vu unseen ∧ Chrs ws (spell ds xs i) ∧ ws.length ≤ 2 * i ∧
      m "word" = some (.bytes b t) ∧ m "drawn" = some (.ref D) ∧ m "alphabets" = some (.ref a1) ∧ m "unseen" = some (.ref a2) ∧ m "signs" = some (.ref a3))
    hh (by assumption) (by omega) (Nat.zero_le _) (by assumption) (by assumption) ?_ ?_ ?_
  · refine ⟨_, _, _, _, _, [], _, rfl, ?_, ?_, ?_, ?_, Chrs.nil, Nat.le_refl _, rfl, rfl, rfl, rfl, rfl⟩
    · exact Nat.ne_of_gt (hl3 _ (.head _))
    · exact Nat.ne_of_gt (hl3 _ (.tail _ (.head _)))
    · exact Nats.cons (Nats.cons (Nats.cons (Nats.cons (Nats.cons (Nats.cons (Nats.cons (Nats.cons (Nats.cons (Nats.cons Nats.nil)))))))))
    · exact Nats.cons (Nats.cons (Nats.cons (Nats.cons Nats.nil)))
  · rintro i ti m₁ nx h₁ tk₁ own _ hi hadr hoff ⟨a1, a2, a3, va, vu, ws, n, rfl, h32, h31, hva, hvu, hws, hwl, e1, e2, e3, e4, e5⟩ F₁ N₁
    have hi5 : xs[i % 5]? = some (xs.getD (i % 5) 0) := by
      have : i % 5 < xs.length := by omega
      simp [List.getD, this]
    have hdi : ds[i]? = some (ds.getD i 0) := by simp [List.getD, hi]
    have hd16 : ds.getD i 0 < 16 := by
      have : ds.getD i 0 = ds[i] := by simp [List.getD, hi]
      rw [this]; exact hds _ (List.getElem_mem hi)
    repeat' walk_at "ev"
    refine itemNats (isListKeep hD F₁.keep) hv hi5 (by omega) ?_
    intro tx1
    repeat' walk_at "ev"
    generalize hs : (xs.getD (i % 5) 0 / 16 + i) % 12 = s at *
    have hs12 : s < 12 := by omega
    have hus : unseen[s / 3]? = some (unseen.getD (s / 3) 0) := by
      have : s / 3 < unseen.length := by show _ < 4; omega
      simp [List.getD, this]
    rw [← hadr] at hoff
    have hsp : spell ds xs (i + 1) = spell ds xs i ++ sgn (ds.getD i 0) s := by rw [← hs]; rfl
    have hal : alphs[s - 2]? = some (alphs.getD (s - 2) 0) := by
      have : s - 2 < alphs.length := by show _ < 10; omega
      simp [List.getD, this]
    have hal2 : alphs.getD (s - 2) 0 ≤ 12 := alph_le _ (by omega)
    refine ifB (fun hs3 => ?_) (fun hs3 => ?_)
    · have hs3' : s % 3 = 0 := by simpa using hs3
      repeat' walk_at "ev"
      refine itemNats (News.isList ‹News h₀ L _ _› (.tail _ (.head _))) hvu hus (by decide) ?_
      intro tu
      repeat' walk_at "ev"
      refine chrN (Nat.le_trans (unseen_le _ (by omega)) (by decide)) ?_
      intro _ _
      repeat' walk_at "ev"
      refine appK (by assumption) (by assumption) (off3 h32 h31 hoff) ?_ (by omega)
      intro h4 F4 N4
      repeat' walk_at "ev"
      refine ifB (fun hs2 => ?_) (fun hs2 => ?_)
      · have hs2' : s < 2 := by simpa using hs2
        repeat' walk_at "ev"
        refine itemBy hb hl hdi ?_
        intro _ _
        repeat' walk_at "ev"
        refine ⟨‹Fr h₀ L _ _›.keep, ?_⟩
        refine call_of_cn (add_spec (k := k + 1) (by omega)) (by assumption) (by assumption) (by assumption) (by assumption) (by assumption) (by assumption) (by assumption) rfl trivial ?_
        rintro _ h5 tk5 F5 N5 _ ⟨ta, rfl⟩
        repeat' walk_at "ev"
        refine chrN (by show 65 + ds.getD i 0 + 32 * s ≤ 1114111; omega) ?_
        intro _ _
        repeat' walk_at "ev"
        refine appK F5 N5 (off3 h32 h31 hoff) ?_ (by simp; omega)
        intro h6 F6 N6
        repeat' walk_at "ev"
        refine loopNext [(a3, _), (a2, _), (a1, _)] F6 N6 ⟨a1, a2, a3, va, vu, _, _, rfl, h32, h31, hva, hvu, ?_, ?_, e1, e2, e3, e4, e5⟩ hadr rfl
        · rw [hsp]
          have : sgn (ds.getD i 0) s = [unseen.getD (s / 3) 0] ++ [65 + ds.getD i 0 + 32 * s] := by simp [sgn, ltr, hs3', hs2']
          rw [this]
          rw [← List.append_assoc]; exact hws.push.push
        · simp; omega
      · have hs2' : 2 ≤ s := by simpa using hs2
        repeat' walk_at "ev"
        refine itemBy hb hl hdi ?_
        intro _ _
        repeat' walk_at "ev"
        refine itemNats (News.isList ‹News h₀ L _ _› (.tail _ (.tail _ (.head _)))) hva hal (by decide) ?_
        intro tl
        repeat' walk_at "ev"
        refine ⟨‹Fr h₀ L _ _›.keep, ?_⟩
        refine call_of_cn (add_spec (k := k + 1) (by omega)) (by assumption) (by assumption) (by assumption) (by assumption) (by assumption) (by assumption) (by assumption) rfl trivial ?_
        rintro _ h5 tk5 F5 N5 _ ⟨ta, rfl⟩
        repeat' walk_at "ev"
        refine chrN (by show 65 + ds.getD i 0 + (119743 + 52 * alphs.getD (s - 2) 0) ≤ 1114111; omega) ?_
        intro _ _
        repeat' walk_at "ev"
        refine appK F5 N5 (off3 h32 h31 hoff) ?_ (by simp; omega)
        intro h6 F6 N6
        repeat' walk_at "ev"
        refine loopNext [(a3, _), (a2, _), (a1, _)] F6 N6 ⟨a1, a2, a3, va, vu, _, _, rfl, h32, h31, hva, hvu, ?_, ?_, e1, e2, e3, e4, e5⟩ hadr rfl
        · rw [hsp]
          have : sgn (ds.getD i 0) s = [unseen.getD (s / 3) 0] ++ [65 + ds.getD i 0 + (119743 + 52 * alphs.getD (s - 2) 0)] := by simp [sgn, ltr, hs3', Nat.not_lt.mpr hs2']
          rw [this]
          rw [← List.append_assoc]; exact hws.push.push
        · simp; omega
    · have hs3' : ¬ s % 3 = 0 := by simpa using hs3
      repeat' walk_at "ev"
      refine ifB (fun hs2 => ?_) (fun hs2 => ?_)
      · have hs2' : s < 2 := by simpa using hs2
        repeat' walk_at "ev"
        refine itemBy hb hl hdi ?_
        intro _ _
        repeat' walk_at "ev"
        refine ⟨‹Fr h₀ L _ _›.keep, ?_⟩
        refine call_of_cn (add_spec (k := k + 1) (by omega)) (by assumption) (by assumption) (by assumption) (by assumption) (by assumption) (by assumption) (by assumption) rfl trivial ?_
        rintro _ h5 tk5 F5 N5 _ ⟨ta, rfl⟩
        repeat' walk_at "ev"
        refine chrN (by show 65 + ds.getD i 0 + 32 * s ≤ 1114111; omega) ?_
        intro _ _
        repeat' walk_at "ev"
        refine appK F5 N5 (off3 h32 h31 hoff) ?_ (by omega)
        intro h6 F6 N6
        repeat' walk_at "ev"
        refine loopNext [(a3, _), (a2, _), (a1, _)] F6 N6 ⟨a1, a2, a3, va, vu, _, _, rfl, h32, h31, hva, hvu, ?_, ?_, e1, e2, e3, e4, e5⟩ hadr rfl
        · rw [hsp]
          have : sgn (ds.getD i 0) s = ([] : List Nat) ++ [65 + ds.getD i 0 + 32 * s] := by simp [sgn, ltr, hs3', hs2']
          rw [this]
          rw [List.nil_append]; exact hws.push
        · simp; omega
      · have hs2' : 2 ≤ s := by simpa using hs2
        repeat' walk_at "ev"
        refine itemBy hb hl hdi ?_
        intro _ _
        repeat' walk_at "ev"
        refine itemNats (News.isList ‹News h₀ L _ _› (.tail _ (.tail _ (.head _)))) hva hal (by decide) ?_
        intro tl
        repeat' walk_at "ev"
        refine ⟨‹Fr h₀ L _ _›.keep, ?_⟩
        refine call_of_cn (add_spec (k := k + 1) (by omega)) (by assumption) (by assumption) (by assumption) (by assumption) (by assumption) (by assumption) (by assumption) rfl trivial ?_
        rintro _ h5 tk5 F5 N5 _ ⟨ta, rfl⟩
        repeat' walk_at "ev"
        refine chrN (by show 65 + ds.getD i 0 + (119743 + 52 * alphs.getD (s - 2) 0) ≤ 1114111; omega) ?_
        intro _ _
        repeat' walk_at "ev"
        refine appK F5 N5 (off3 h32 h31 hoff) ?_ (by omega)
        intro h6 F6 N6
        repeat' walk_at "ev"
        refine loopNext [(a3, _), (a2, _), (a1, _)] F6 N6 ⟨a1, a2, a3, va, vu, _, _, rfl, h32, h31, hva, hvu, ?_, ?_, e1, e2, e3, e4, e5⟩ hadr rfl
        · rw [hsp]
          have : sgn (ds.getD i 0) s = ([] : List Nat) ++ [65 + ds.getD i 0 + (119743 + 52 * alphs.getD (s - 2) 0)] := by simp [sgn, ltr, hs3', Nat.not_lt.mpr hs2']
          rw [this]
          rw [List.nil_append]; exact hws.push
        · simp; omega
  · rintro m₁ nx h₁ tk₁ ⟨a1, a2, a3, va, vu, ws, n, rfl, h32, h31, hva, hvu, hws, hwl, e1, e2, e3, e4, e5⟩ F₁ N₁
    repeat' walk_at "ev"
    exact ⟨a3, ws, n, rfl, (N₁ _ (.head _)).1, (N₁ _ (.head _)).2.2, hws⟩
end
/-! part alike -/
/-- the run of alike figures behind the turns made, and the pieces told -/
noncomputable def runD (r : List Nat) (a top : Nat) : Nat → Nat
  | 0 => 0
  | t + 1 => if r.getD (top - t) 0 = r.getD (top - t + a) 0 then runD r a top t + 1 else 0
noncomputable def pcsD (r : List Nat) (a top : Nat) : Nat → Nat
  | 0 => 0
  | t + 1 => pcsD r a top t + min (runD r a top (t + 1)) a
noncomputable def pcs (r : List Nat) (a : Nat) : Nat := pcsD r a (6 - a) (6 - a + 1)
noncomputable def alikeL (r : List Nat) : Nat → List Nat
  | 0 => []
  | n + 1 => alikeL r n ++ [pcs r (n + 1)]
section
variable {prog : Program} {w : World} {A : Around} {E : Value → Shared → Prop} {L : Addr} {h₀ : Heap} {m : Str → Option Value} {news : List (Addr × Obj)} {h : Heap} {g : Array GenState} {dr : Drawn} {tk : Nat} {o : OsState}
theorem mnN {a b : Nat} {t u : Tok} {Q : Value → Shared → Prop} (hh : A.handled = none) (F : Fr h₀ L h m) (N : News h₀ L h news)
    (H : ∀ t h' tk', Fr h₀ L h' m → News h₀ L h' news → Q (.int ((min a b : Nat) : Int) t) ⟨h', g, dr, tk', o⟩) : wpAny (model prog w) A (call (.builtin "min") [.int (a : Int) t, .int (b : Int) u]) Q E ⟨h, g, dr, tk, o⟩ :=
  min_two_N hh F N fun h' tk' F' N' => by
    have e : (if (b : Int) < (a : Int) then (b : Int) else (a : Int)) = ((min a b : Nat) : Int) := by split <;> omega
    rw [e]; exact H _ _ _ F' N'
end
section
variable {prog : Program} {w : World} {mean : ExcName → Option Value} {mg mb : Str → Option Value}
theorem alike_spec {k : Nat} {r : List Nat} {D : Addr} {vs : List Value} (hk : k ≤ 10) (hr : r.length = 7) (hv : Nats vs r) :
    Cn prog w mean mg mb k (recOf "_law_alike") [.ref D] (fun h => h.IsList D vs.toArray)
      (fun v h h' => ∃ a ws n, v = .ref a ∧ h'.get? a = some (listOf ws.toArray n) ∧ h.get? a = none ∧ Nats ws (alikeL r 6)) := by
  refine enter [("row", .ref D)] rfl hk (fun _ _ _ => rfl) (by rfl) rfl rfl rfl (by decide) ?_
  intro A base h₀ outer L a cdv h g dr tk o B F N T X lv hh hD
  repeat' walk_at "ev"
  refine For_invV h₀ rfl rfl ?_ (by intro _; rfl) PassesOwn.never
  repeat' walk_at "ev"
  refine iterUp (a := 1) (b := 7) (fun i m nx => ∃ (a1 : Addr) (ws : List Value) (n : Nat), nx = [(a1, listOf ws.toArray n)] ∧ Nats ws (alikeL r (i - 1)) ∧ ws.length < i ∧ m "row" = some (.ref D) ∧ m "many" = some (.ref a1))
    hh (by assumption) (by decide) (by decide) (by assumption) (by assumption) ?_ ?_ ?_
  · exact ⟨_, [], _, rfl, Nats.nil, Nat.lt_succ_self _, rfl, rfl⟩
  · rintro i ti m₁ nx h₁ tk₁ own hi1 hi hadr hoff ⟨a1, ws, n, rfl, hws, hwl, e1, e2⟩ F₁ N₁
    rw [← hadr] at hoff
    repeat' walk_at "ev"
    refine For_invV h₀ rfl rfl ?_ (by intro _; rfl) PassesOwn.never
    repeat' walk_at "ev"
    refine iterDown (a := 6 - i) (fun j m nx => nx = [(a1, listOf ws.toArray n)] ++ own ∧ (∃ t1, m "run" = some (.int ((runD r i (6 - i) (6 - i + 1 - j) : Nat) : Int) t1)) ∧ (∃ t2, m "pieces" = some (.int ((pcsD r i (6 - i) (6 - i + 1 - j) : Nat) : Int) t2)) ∧ m "row" = some (.ref D) ∧ m "many" = some (.ref a1) ∧ (∃ t3, m "apart" = some (.int (i : Int) t3)))
      hh (by assumption) (by omega) (by assumption) (by assumption) ?_ ?_ ?_
    · refine ⟨rfl, ?_, ?_, e1, e2, ⟨_, rfl⟩⟩
      · rw [Nat.sub_self]; exact ⟨_, rfl⟩
      · rw [Nat.sub_self]; exact ⟨_, rfl⟩
    · rintro j tj m₂ nx h₂ tk₂ own2 hj hadr2 hoff2 ⟨rfl, ⟨t1, f1⟩, ⟨t2, f2⟩, f3, f4, ⟨t3, f5⟩⟩ F₂ N₂
      repeat' walk_at "ev"
      have hrj : r[j]? = some (r.getD j 0) := by
        have : j < r.length := by omega
        simp [List.getD, this]
      have hrk : r[j + i]? = some (r.getD (j + i) 0) := by
        have : j + i < r.length := by omega
        simp [List.getD, this]
      have etop : 6 - i + 1 - j = (6 - i + 1 - (j + 1)) + 1 := by omega
      have ej : 6 - i - (6 - i + 1 - (j + 1)) = j := by omega
      have hpc : pcsD r i (6 - i) (6 - i + 1 - j) = pcsD r i (6 - i) (6 - i + 1 - (j + 1)) + min (runD r i (6 - i) (6 - i + 1 - j)) i := by rw [etop]; rfl
      have hrd : runD r i (6 - i) (6 - i + 1 - j) = if r.getD j 0 = r.getD (j + i) 0 then runD r i (6 - i) (6 - i + 1 - (j + 1)) + 1 else 0 := by
        rw [etop]
        show (if r.getD (6 - i - (6 - i + 1 - (j + 1))) 0 = r.getD (6 - i - (6 - i + 1 - (j + 1)) + i) 0 then _ else _) = _
        rw [ej]
      refine itemNats (isListKeep hD F₂.keep) hv hrj (by omega) ?_
      intro tA
      repeat' walk_at "ev"
      refine itemNats (isListKeep hD F₂.keep) hv hrk (by omega) ?_
      intro tB
      repeat' walk_at "ev"
      refine ifB (fun heq => ?_) (fun heq => ?_)
      · have hrd' : runD r i (6 - i) (6 - i + 1 - j) = runD r i (6 - i) (6 - i + 1 - (j + 1)) + 1 := by rw [hrd, if_pos (by simpa using heq)]
        repeat' walk_at "ev"
        refine mnN hh (by assumption) (by assumption) ?_
        intro _ h5 tk5 F5 N5
        repeat' walk_at "ev"
        have F9 := ‹Fr h₀ L _ _›
        have N9 := ‹News h₀ L _ _›
        refine loopNext ([(a1, _)] ++ own) F9 N9 ⟨rfl, ⟨_, congrArg (fun n : Nat => some (Value.int (n : Int) _)) hrd'.symm⟩, ⟨_, congrArg (fun n : Nat => some (Value.int (n : Int) _)) (hpc.trans (congrArg (fun x => _ + min x i) hrd')).symm⟩, f3, f4, ⟨_, f5⟩⟩ hadr2 rfl
      · have hrd' : runD r i (6 - i) (6 - i + 1 - j) = 0 := by rw [hrd, if_neg (by simpa using heq)]
        repeat' walk_at "ev"
        refine mnN hh (by assumption) (by assumption) ?_
        intro _ h5 tk5 F5 N5
        repeat' walk_at "ev"
        have F9 := ‹Fr h₀ L _ _›
        have N9 := ‹News h₀ L _ _›
        refine loopNext ([(a1, _)] ++ own) F9 N9 ⟨rfl, ⟨_, congrArg (fun n : Nat => some (Value.int (n : Int) _)) hrd'.symm⟩, ⟨_, congrArg (fun n : Nat => some (Value.int (n : Int) _)) (hpc.trans (congrArg (fun x => _ + min x i) hrd')).symm⟩, f3, f4, ⟨_, f5⟩⟩ hadr2 rfl
    · rintro m₂ nx h₂ tk₂ ⟨rfl, ⟨t1, f1⟩, ⟨t2, f2⟩, f3, f4, ⟨t3, f5⟩⟩ F₂ N₂
      repeat' walk_at "ev"
      refine appK (by assumption) (by assumption) (hoff.ne (.head _)) ?_ (by omega)
      intro h4 F4 N4
      repeat' walk_at "ev"
      refine loopNext [(a1, _)] F4 N4 ⟨a1, _, _, rfl, ?_, ?_, f3, f4⟩ hadr rfl
      · rw [show i + 1 - 1 = (i - 1) + 1 by omega]
        show Nats _ (alikeL r (i - 1) ++ [pcs r (i - 1 + 1)])
        rw [show i - 1 + 1 = i by omega]
        exact hws.push
      · simp; omega
  · rintro m₁ nx h₁ tk₁ ⟨a1, ws, n, rfl, hws, hwl, e1, e2⟩ F₁ N₁
    repeat' walk_at "ev"
    exact ⟨a1, ws, n, rfl, (N₁ _ (.head _)).1, (N₁ _ (.head _)).2.2, hws⟩
end
/-! part asked -/
/-- one more at place i -/
noncomputable def bump (c : List Nat) (i : Nat) : List Nat := c.set i (c.getD i 0 + 1)
/-- the fronts of a stretch, the first n of them -/
noncomputable def askK (part : List Nat) : Nat → List Nat × Bool → List Nat × Bool
  | 0, s => s
  | n + 1, s => if tm (part.take (n + 1)) part then (bump (askK part n s).1 (part.length - (n + 1)), false) else askK part n s
noncomputable def part (l : List Nat) (b len : Nat) : List Nat := (l.drop b).take len
noncomputable def askB (l : List Nat) (len : Nat) : Nat → List Nat × Nat → List Nat × Nat
  | 0, s => s
  | b + 1, s => ((askK (part l b len) (len - 1) ((askB l len b s).1, true)).1, if (askK (part l b len) (len - 1) ((askB l len b s).1, true)).2 then len else (askB l len b s).2)
noncomputable def askL (l : List Nat) : Nat → List Nat × Nat
  | 0 => (List.replicate 7 0, 0)
  | n + 1 => askB l (n + 1) (8 - (n + 1)) (askL l n)
noncomputable def askedL (l : List Nat) : List Nat := (askL l 7).1.drop 1 ++ [(askL l 7).2]
section
variable {prog : Program} {w : World} {mean : ExcName → Option Value} {mg mb : Str → Option Value}
theorem bump_len (c : List Nat) (i : Nat) : (bump c i).length = c.length := by simp [bump]
theorem askK_len (p : List Nat) : ∀ n s, (askK p n s).1.length = s.1.length := by
  intro n
  induction n with
  | zero => intro s; rfl
  | succ n ih => intro s; simp only [askK]; split
                 · rw [bump_len, ih]
                 · exact ih s
theorem askB_len (l : List Nat) (len : Nat) : ∀ b s, (askB l len b s).1.length = s.1.length := by
  intro b
  induction b with
  | zero => intro s; rfl
  | succ b ih => intro s; simp only [askB]; rw [askK_len]; exact ih s
theorem askL_len (l : List Nat) : ∀ n, (askL l n).1.length = 7 := by
  intro n
  induction n with
  | zero => rfl
  | succ n ih => simp only [askL]; rw [askB_len, ih]
theorem asked_spec {k : Nat} {l : List Nat} {t : Tok} (hk : k ≤ 9) (hl : l.length = 7) (hc : ∀ c ∈ l, c ≠ 46) :
    Cn prog w mean mg mb k (recOf "_law_asked") [.str (tx l) t] (fun _ => True)
      (fun v h h' => ∃ a ws n, v = .ref a ∧ h'.get? a = some (listOf ws.toArray n) ∧ h.get? a = none ∧ Nats ws (askedL l)) := by
  refine enter [("text", .str (tx l) t)] rfl (by omega) (fun _ _ _ => rfl) (by rfl) rfl rfl rfl (by decide) ?_
  intro A base h₀ outer L a cdv h g dr tk o B F N T X lv hh _
  repeat' walk_at "ev"
  refine mulL (ns := [0]) (by assumption) (by assumption) (.cons _ _ .nil) (by decide) (by simp) ?_
  intro D1 ws1 h1 F1 N1 _ hz1
  repeat' walk_at "ev"
  refine For_invV h₀ rfl rfl ?_ (by intro _; rfl) PassesOwn.never
  repeat' walk_at "ev"
  -- the lengths
  refine iterUp (a := 1) (b := 8) (fun i m nx => ∃ (a1 : Addr) (ws : List Value) (n : Nat) (tl : Tok), nx = [(a1, listOf ws.toArray n)] ∧ IntsAre ws (zs (askL l (i - 1)).1) ∧ m "text" = some (.str (tx l) t) ∧ m "many" = some (.ref a1) ∧ m "longest" = some (.int ((askL l (i - 1)).2 : Nat) tl))
    hh (by assumption) (by decide) (by decide) (by assumption) (by assumption) ?_ ?_ ?_
  · exact ⟨_, ws1, _, _, rfl, hz1, rfl, rfl, rfl⟩
  · rintro len tlen m₁ nx h₁ tk₁ own hi1 hi hadr hoff ⟨a1, ws, n, tl, rfl, hws, e1, e2, e3⟩ F₁ N₁
    rw [← hadr] at hoff
    repeat' walk_at "ev"
    refine For_invV h₀ rfl rfl ?_ (by intro _; rfl) PassesOwn.never
    repeat' walk_at "ev"
    -- the begins
    refine iterUp (a := 0) (b := 8 - len) (fun b m nx => ∃ (ws : List Value) (tl tn : Tok), nx = (a1, listOf ws.toArray n) :: own ∧ IntsAre ws (zs (askB l len b (askL l (len - 1))).1) ∧ m "text" = some (.str (tx l) t) ∧ m "many" = some (.ref a1) ∧ m "longest" = some (.int ((askB l len b (askL l (len - 1))).2 : Nat) tl) ∧ m "length" = some (.int (len : Int) tn))
      hh (by assumption) (by omega) (Nat.zero_le _) (by assumption) (by assumption) ?_ ?_ ?_
    · exact ⟨ws, tl, tlen, rfl, hws, e1, e2, e3, rfl⟩
    · rintro b tb m₂ nx h₂ tk₂ own2 _ hb hadr2 hoff2 ⟨ws2, tl2, tn, rfl, hws2, f1, f2, f3, f4⟩ F₂ N₂
      rw [← hadr2] at hoff2
      repeat' walk_at "ev"
      refine slT (by assumption) (by assumption) (by omega) (by omega) (by omega) ?_
      intro tp h3 tk3 F3 N3
      repeat' walk_at "ev"
      refine For_invV h₀ rfl rfl ?_ (by intro _; rfl) PassesOwn.never
      repeat' walk_at "ev"
      have hpl : (part l b len).length = len := by simp [part]; omega
      have hpc : ∀ c ∈ part l b len, c ≠ 46 := fun c h => hc c (List.mem_of_mem_drop (List.mem_of_mem_take h))
      have hCl : (askB l len b (askL l (len - 1))).1.length = 7 := by rw [askB_len, askL_len]
      rw [show b + len - b = len by omega] at *
      generalize hC : (askB l len b (askL l (len - 1))).1 = C at *
      -- the fronts
      refine iterUp (a := 1) (b := len) (fun k m nx => ∃ (ws : List Value) (tn : Tok), nx = (a1, listOf ws.toArray n) :: own ++ own2 ∧ IntsAre ws (zs (askK (part l b len) (k - 1) (C, true)).1) ∧ m "bare" = some (.bool (askK (part l b len) (k - 1) (C, true)).2) ∧ m "text" = some (.str (tx l) t) ∧ m "many" = some (.ref a1) ∧ m "longest" = some (.int ((askB l len b (askL l (len - 1))).2 : Nat) tl2) ∧ m "length" = some (.int (len : Int) tn) ∧ m "part" = some (.str (tx (part l b len)) tp))
        hh (by assumption) (by omega) (by omega) (by assumption) (by assumption) ?_ ?_ ?_
      · exact ⟨ws2, tn, rfl, hws2, rfl, f1, f2, f3, f4, rfl⟩
      · rintro k1 tk1 m₃ nx h₃ tk₃ own3 hk1 hk2 hadr3 hoff3 ⟨ws3, tn3, rfl, hws3, g0, g1, g2, g3, g4, g5⟩ F₃ N₃
        rw [← hadr3] at hoff3
        have hoffall : ∀ p ∈ own ++ own2 ++ own3, p.1 ≠ a1 := by
          intro p hp
          rcases List.mem_append.mp hp with hp | hp
          · rcases List.mem_append.mp hp with hp | hp
            · exact hoff p hp a1 (.head _)
            · exact hoff2 p hp a1 (.head _)
          · exact hoff3 p hp a1 (.head _)
        have hCk : (askK (part l b len) (k1 - 1) (C, true)).1.length = 7 := by rw [askK_len]; exact hCl
        obtain ⟨j, rfl⟩ : ∃ j, k1 = j + 1 := ⟨k1 - 1, by omega⟩
        rw [Nat.add_sub_cancel] at *
        have hst : askK (part l b len) (j + 1) (C, true) = if tm ((part l b len).take (j + 1)) (part l b len) then (bump (askK (part l b len) j (C, true)).1 (len - (j + 1)), false) else askK (part l b len) j (C, true) := by
          show (if _ then (bump _ ((part l b len).length - (j + 1)), false) else _) = _
          rw [hpl]
        repeat' walk_at "ev"
        refine slT0 (by assumption) (by assumption) (by omega) (by omega) ?_
        intro _ _ _ _ _
        repeat' walk_at "ev"
        rw [marker_is]
        have htl : ((part l b len).take (j + 1)).length ≤ 7 := by rw [List.length_take, hpl]; omega
        refine addT ?_ (by show _ + 3 ≤ _; omega)
        intro _ _
        repeat' walk_at "ev"
        refine slT0 (by assumption) (by assumption) (by omega) (by omega) ?_
        intro _ _ _ F7 N7
        repeat' walk_at "ev"
        refine ⟨F7.keep, ?_⟩
        refine call_of_cn (ellipsis_spec (k := k + 1) (by omega) (fun c h => hpc c (List.mem_of_mem_take h)) (by rw [List.length_take, hpl]; omega) (by omega) (by omega)) (by assumption) F7 N7 (by assumption) (by assumption) (by assumption) (by assumption) rfl trivial ?_
        rintro _ h5 tk5 F5 N5 _ rfl
        repeat' walk_at "ev"
        refine ifB (fun hy => ?_) (fun hy => ?_)
        · have hy' : tm ((part l b len).take (j + 1)) (part l b len) = true := by simpa using hy
          rw [hy'] at hst
          repeat' walk_at "ev"
          refine getL (by assumption) (.head _) hws3 (by omega) (by omega) ?_
          intro _
          repeat' walk_at "ev"
          refine setL (by assumption) (by assumption) hoffall hws3 (by omega) (by omega) ?_
          intro ws4 h6 F6 N6 hws4
          repeat' walk_at "ev"
          have F9 := ‹Fr h₀ L _ _›
          have N9 := ‹News h₀ L _ _›
          refine loopNext ((a1, listOf ws4.toArray n) :: own ++ own2) F9 N9 ⟨ws4, tn3, rfl, ?_, ?_, g1, g2, g3, g4, g5⟩ hadr3 rfl
          · rw [hst]; exact hws4
          · rw [hst]; rfl
        · have hy' : tm ((part l b len).take (j + 1)) (part l b len) = false := by simpa using hy
          rw [hy'] at hst
          repeat' walk_at "ev"
          refine ifB (fun hz => ?_) (fun _ => ?_)
          · rw [hy'] at hz; cases hz
          repeat' walk_at "ev"
          have F9 := ‹Fr h₀ L _ _›
          have N9 := ‹News h₀ L _ _›
          refine loopNext ((a1, listOf ws3.toArray n) :: own ++ own2) F9 N9 ⟨ws3, tn3, rfl, ?_, ?_, g1, g2, g3, g4, g5⟩ hadr3 rfl
          · rw [hst]; exact hws3
          · rw [hst]; exact g0
      · rintro m₃ nx h₃ tk₃ ⟨ws3, tn3, rfl, hws3, g0, g1, g2, g3, g4, g5⟩ F₃ N₃
        repeat' walk_at "ev"
        have eB : askB l len (b + 1) (askL l (len - 1)) = ((askK (part l b len) (len - 1) (C, true)).1, if (askK (part l b len) (len - 1) (C, true)).2 then len else (askB l len b (askL l (len - 1))).2) := by rw [← hC]; rfl
        refine ifB (fun hy => ?_) (fun hy => ?_)
        · rw [hy] at eB
          repeat' walk_at "ev"
          have F9 := ‹Fr h₀ L _ _›
          have N9 := ‹News h₀ L _ _›
          refine loopNext ((a1, listOf ws3.toArray n) :: own) F9 N9 ⟨ws3, tn3, tn3, rfl, ?_, g1, g2, ?_, g4⟩ hadr2 rfl
          · rw [eB]; exact hws3
          · rw [eB]; rfl
        · rw [hy] at eB
          repeat' walk_at "ev"
          have F9 := ‹Fr h₀ L _ _›
          have N9 := ‹News h₀ L _ _›
          refine loopNext ((a1, listOf ws3.toArray n) :: own) F9 N9 ⟨ws3, tl2, tn3, rfl, ?_, g1, g2, ?_, g4⟩ hadr2 rfl
          · rw [eB]; exact hws3
          · rw [eB]; exact g3
    · rintro m₂ nx h₂ tk₂ ⟨ws2, tl2, tn, rfl, hws2, f1, f2, f3, f4⟩ F₂ N₂
      repeat' walk_at "ev"
      have e : askL l (len + 1 - 1) = askB l len (8 - len) (askL l (len - 1)) := by
        obtain ⟨n', rfl⟩ : ∃ n', len = n' + 1 := ⟨len - 1, by omega⟩
        rfl
      refine loopNext [(a1, listOf ws2.toArray n)] F₂ N₂ ⟨a1, ws2, n, tl2, rfl, ?_, f1, f2, ?_⟩ hadr rfl
      · rw [e]; exact hws2
      · rw [e]; exact f3
  · rintro m₁ nx h₁ tk₁ ⟨a1, ws, n, tl, rfl, hws, e1, e2, e3⟩ F₁ N₁
    repeat' walk_at "ev"
    refine slFrom (by assumption) (by assumption) (News.isList N₁ (.head _)) hws (by rw [(nats_of_ints hws).1, askL_len]; decide) ?_
    intro D3 ws3 h3 F3 N3 lt3 hws3
    repeat' walk_at "ev"
    refine addL (c := (askL l 7).1.drop 1) (d := [(askL l 7).2]) (by assumption) (by assumption) (News.isList (by assumption) (.tail _ (.head _))) (News.isList (by assumption) (.head _)) ?_ (.cons _ _ .nil) (by rw [List.length_drop, askL_len]; decide) (by simp) ?_
    · have : zs ((askL l 7).1.drop 1) = (zs (askL l 7).1).drop 1 := by simp [zs]
      rw [this]; exact hws3
    intro D4 us h4 F4 N4 _ hus
    repeat' walk_at "ev"
    exact ⟨D4, us, 0, rfl, (N4 _ (.head _)).1, (N4 _ (.head _)).2.2, nats_of_ints hus⟩
end
/-! part P1 -/
/-- what is left behind n figures of the long division, and the figures -/
noncomputable def remD (top W : Nat) : Nat → Nat
  | 0 => top
  | n + 1 => 16 * remD top W n % W
noncomputable def rowD (top W : Nat) : Nat → List Nat
  | 0 => []
  | n + 1 => rowD top W n ++ [16 * remD top W n / W]
theorem remD_is (top W : Nat) (h : top < W) : ∀ n, remD top W n = top * 16 ^ n % W := by
  intro n
  induction n with
  | zero => simp [remD, Nat.mod_eq_of_lt h]
  | succ n ih => rw [remD, ih, Nat.mul_mod_mod]; congr 1; rw [Nat.pow_succ]; ac_rfl
theorem remD_lt (top W : Nat) (h : top < W) : ∀ n, remD top W n < W := by
  intro n
  rw [remD_is top W h]
  exact Nat.mod_lt _ (by omega)
theorem rowD_len (top W : Nat) : ∀ n, (rowD top W n).length = n := by
  intro n
  induction n with
  | zero => rfl
  | succ n ih => simp [rowD, ih]
theorem rowD_lt (top W : Nat) (h : top < W) : ∀ n, ∀ d ∈ rowD top W n, d < 16 := by
  intro n
  induction n with
  | zero => intro d hd; cases hd
  | succ n ih =>
    intro d hd
    rcases List.mem_append.mp hd with hd | hd
    · exact ih d hd
    · obtain rfl := List.mem_singleton.mp hd
      have := remD_lt top W h n
      rw [Nat.div_lt_iff_lt_mul (by omega)]; omega
theorem hexv_row (top W a : Nat) (h : top < W) : ∀ n, hexv (rowD top W n) a = a * 16 ^ n + top * 16 ^ n / W := by
  intro n
  induction n with
  | zero => simp [rowD, hexv, Nat.div_eq_of_lt h]
  | succ n ih =>
    rw [rowD, hexv_snoc, ih, remD_is top W h]
    have e1 : top * 16 ^ (n + 1) = 16 * (top * 16 ^ n) := by rw [Nat.pow_succ]; ac_rfl
    have e2 : a * 16 ^ (n + 1) = 16 * (a * 16 ^ n) := by rw [Nat.pow_succ]; ac_rfl
    rw [e1, e2]
    generalize top * 16 ^ n = x
    have hx : x = W * (x / W) + x % W := (Nat.div_add_mod x W).symm
    have : 16 * x / W = 16 * (x / W) + 16 * (x % W) / W := by
      conv => lhs; rw [hx]
      rw [show 16 * (W * (x / W) + x % W) = 16 * (x % W) + W * (16 * (x / W)) by rw [Nat.mul_add]; rw [Nat.add_comm]; congr 1; ac_rfl]
      rw [Nat.add_mul_div_left _ _ (by omega), Nat.add_comm]
    rw [this]; omega
/-! part P3 -/
/-- the sign is not one of those left out -/
noncomputable def keepC (c : Nat) : Bool := !decide ((c : Int) ∈ b1L)
/-- the small letter that the table or lower gives -/
noncomputable def lowC (c : Nat) : Nat := if c < 97 then c + 32 else if c < 181 then c else 97 + (c - 119808) % 52
noncomputable def letters (l : List Nat) : List Nat := (l.filter keepC).map lowC
theorem letters_app (a b : List Nat) : letters (a ++ b) = letters a ++ letters b := by simp [letters]
theorem sgn_letters : ∀ d, d < 16 → ∀ s, s < 12 → letters (sgn d s) = [97 + d] := by decide +kernel
theorem unseen_left : ∀ i, i < 4 → keepC (unseen.getD i 0) = false := by decide +kernel
theorem ltr_low : ∀ d, d < 16 → ∀ s, s < 12 → lowC (ltr d s) = 97 + d := by decide +kernel
theorem alph_in : ∀ i, i < 10 → alphs.getD i 0 ∈ ([0, 1, 2, 4, 7, 8, 9, 10, 11, 12] : List Nat) := by decide
theorem sgn_good (d : Nat) (hd : d < 16) (s : Nat) (hs : s < 12) (c : Nat) (hc : c ∈ sgn d s) (hk : keepC c = true) : ∃ i, i < 16 ∧ lowC c = 97 + i ∧ (c = 65 + i ∨ c = 97 + i ∨ ∃ j ∈ ([0, 1, 2, 4, 7, 8, 9, 10, 11, 12] : List Nat), c = 119808 + i + 52 * j) := by
  unfold sgn at hc
  rcases List.mem_append.mp hc with hc | hc
  · split at hc
    · obtain rfl := List.mem_singleton.mp hc
      rw [unseen_left (s / 3) (by omega)] at hk
      cases hk
    · cases hc
  · obtain rfl := List.mem_singleton.mp hc
    refine ⟨d, hd, ltr_low d hd s hs, ?_⟩
    unfold ltr
    split
    · have hs2 : s = 0 ∨ s = 1 := by omega
      rcases hs2 with rfl | rfl
      · exact .inl rfl
      · exact .inr (.inl (by omega))
    · exact .inr (.inr ⟨_, alph_in (s - 2) (by omega), by omega⟩)
theorem spell_letters (ds xs : List Nat) (hd : ∀ d ∈ ds, d < 16) : ∀ p, p ≤ ds.length → letters (spell ds xs p) = (ds.take p).map (97 + ·) := by
  intro p
  induction p with
  | zero => intro _; rfl
  | succ p ih =>
    intro hp
    have h1 : ds[p]? = some (ds.getD p 0) := by
      have : p < ds.length := hp
      simp [List.getD, this]
    have h2 : ds.getD p 0 < 16 := hd _ (List.mem_of_getElem? h1)
    have e : ds.take (p + 1) = ds.take p ++ [ds.getD p 0] := by
      rw [List.take_add_one, h1]; rfl
    rw [spell, letters_app, ih (by omega), sgn_letters _ h2 (sty xs p) (Nat.mod_lt _ (by decide)), e, List.map_append]
    rfl
theorem spell_good (ds xs : List Nat) (hd : ∀ d ∈ ds, d < 16) : ∀ p, p ≤ ds.length → ∀ c ∈ spell ds xs p, keepC c = true → ∃ i, i < 16 ∧ lowC c = 97 + i ∧ (c = 65 + i ∨ c = 97 + i ∨ ∃ j ∈ ([0, 1, 2, 4, 7, 8, 9, 10, 11, 12] : List Nat), c = 119808 + i + 52 * j) := by
  intro p
  induction p with
  | zero => intro _ c hc; cases hc
  | succ p ih =>
    intro hp c hc
    have h1 : ds[p]? = some (ds.getD p 0) := by
      have : p < ds.length := hp
      simp [List.getD, this]
    have h2 : ds.getD p 0 < 16 := hd _ (List.mem_of_getElem? h1)
    rw [spell] at hc
    rcases List.mem_append.mp hc with hc | hc
    · exact ih (by omega) c hc
    · exact sgn_good _ h2 _ (Nat.mod_lt _ (by decide)) c hc
theorem spell_len (ds xs : List Nat) : ∀ p, (spell ds xs p).length ≤ 2 * p := by
  intro p
  induction p with
  | zero => exact Nat.le_refl _
  | succ p ih =>
    rw [spell, List.length_append]
    have : (sgn (ds.getD p 0) (sty xs p)).length ≤ 2 := by
      unfold sgn; split <;> simp
    omega
theorem letters_len (l : List Nat) : (letters l).length ≤ l.length := by
  unfold letters; rw [List.length_map]; exact List.length_filter_le _ _
theorem joinS_empty : ∀ l : List Nat, Str.join (tx []) (l.map fun c => tx [c]) = tx l
  | [] => rfl
  | [c] => rfl
  | c :: d :: r => by
    show tx [c] ++ tx [] ++ Str.join (tx []) ((d :: r).map fun c => tx [c]) = _
    rw [joinS_empty (d :: r), tx_append, tx_append]
    rfl
theorem join_empty (l : List Nat) : Txt.join (tx []) (l.map fun c => tx [c]) = tx l := by
  show Builtin.Str.glued (tx []) _ = _
  rw [StrLaws.glued_eq_join]
  exact joinS_empty l
theorem strs_of_chrs : ∀ {vs : List Value} {l : List Nat}, Chrs vs l → StrsAre vs (l.map fun c => tx [c])
  | [], [], _ => .nil
  | v :: vs, [], h => by cases h.1
  | [], x :: xs, h => by cases h.1
  | v :: vs, x :: xs, h => by
    obtain ⟨t, ht⟩ := h.2 0 x rfl
    obtain rfl : v = .str (tx [x]) t := by simpa using ht
    exact .cons _ _ (strs_of_chrs ⟨by simpa using h.1, fun i y hy => h.2 (i + 1) y hy⟩)
theorem ones_sum (l : List Nat) : ((l.map fun c => tx [c]).map (·.length)).sum = l.length := by
  induction l with
  | nil => rfl
  | cons a l ih => rw [List.map_cons, List.map_cons, List.sum_cons, ih, tx_length, List.length_cons]; simp; omega
theorem empty_is : Str.ofString "" = tx [] := by decide +kernel
section
variable {prog : Program} {w : World} {A : Around} {E : Value → Shared → Prop} {h : Heap} {g : Array GenState} {dr : Drawn} {tk : Nat} {o : OsState}
theorem joinT {D : Addr} {vs : List Value} {l : List Nat} {t : Tok} {Q : Value → Shared → Prop} (hl : h.IsList D vs.toArray) (hc : Chrs vs l) (hsz : l.length ≤ 1000)
    (H : ∀ t tk', Q (.str (tx l) t) ⟨h, g, dr, tk', o⟩) : wpAny (model prog w) A (call (.builtin "str.join") [.str (Str.ofString "") t, .ref D]) Q E ⟨h, g, dr, tk, o⟩ := by
  rw [empty_is]
  refine join_list hl (strs_of_chrs hc) ?_ (fun t' k => by rw [join_empty]; exact H _ _)
  rw [ones_sum, tx_length]
  simp; omega
theorem ne_tx {a b : List Nat} {t u : Tok} {Q : Value → Shared → Prop} (H : Q (.bool (a != b)) ⟨h, g, dr, tk, o⟩) : wpAny (model prog w) A (compareOp .NotEq (.str (tx a) t) (.str (tx b) u)) Q E ⟨h, g, dr, tk, o⟩ :=
  PySem.P.ne_str H
end
/-! part lawB -/
section
variable {prog : Program} {w : World} {mean : ExcName → Option Value} {mg mb : Str → Option Value}
noncomputable def mods (ns : List Int) : List Nat := (ns.take 5).map fun x => (x % 1000000).toNat
noncomputable def drawnL (ns : List Int) : List Nat := mods ns ++ [3, 17, 34, 17, 50].drop (mods ns).length
theorem drawnL_len (ns : List Int) : (drawnL ns).length = 5 := by simp [drawnL, mods]; omega
/-- the figures drawn -/
noncomputable def digs (ns : List Int) (sz : Nat) : List Nat := (((drawnL ns).drop 1).take (sz + 1)).map (· % 16)
theorem nats_len {vs : List Value} {ns : List Int} (h : IntsAre vs ns) : vs.length = ns.length := by
  induction h with
  | nil => rfl
  | cons _ _ _ ih => simp [ih]
theorem ints_at {vs : List Value} {ns : List Int} (h : IntsAre vs ns) : ∀ {i : Nat} {v : Value}, vs[i]? = some v → ∃ n t, ns[i]? = some n ∧ v = .int n t := by
  induction h with
  | nil => intro i v hv; cases i <;> cases hv
  | cons n t _ ih =>
    intro i v hv
    cases i with
    | zero => exact ⟨n, t, rfl, (by simpa using hv.symm)⟩
    | succ i => exact ih (by simpa using hv)
theorem take_snoc {l : List Nat} {i x : Nat} (h : l[i]? = some x) : l.take (i + 1) = l.take i ++ [x] := by
  have hi : i < l.length := by
    rcases Nat.lt_or_ge i l.length with y | y
    · exact y
    · rw [List.getElem?_eq_none y] at h; cases h
  rw [List.take_succ_eq_append_getElem hi]
  have : l[i] = x := by rw [List.getElem?_eq_getElem hi] at h; exact Option.some.inj h
  rw [this]
theorem with_rec {P : Str → List Stmt → Scope → Prop} {d : DefRec} {name : Str} {params : Arguments} {body : List Stmt} {scope : Scope} {p : Pos} (hd : d = ⟨name, params, body, scope, p⟩) (H : P name body scope) : P d.name d.body d.scope := by
  subst hd; exact H
end
/-! part P2 -/
theorem map_beq (φ : Nat → Nat) (S : List Nat) (h : ∀ x ∈ S, ∀ y ∈ S, φ x = φ y → x = y) : ∀ u v : List Nat, (∀ x ∈ u, x ∈ S) → (∀ x ∈ v, x ∈ S) → ((u.map φ == v.map φ) = (u == v)) := by
  intro u
  induction u with
  | nil => intro v _ _; cases v <;> rfl
  | cons a u ih =>
    intro v hu hv
    cases v with
    | nil => rfl
    | cons b v =>
      have e := ih v (fun x hx => hu x (.tail _ hx)) (fun x hx => hv x (.tail _ hx))
      have e2 : (φ a == φ b) = (a == b) := by
        rw [Bool.eq_iff_iff]; simp only [beq_iff_eq]
        exact ⟨h a (hu a (.head _)) b (hv b (.head _)), fun x => by rw [x]⟩
      show ((φ a == φ b) && (u.map φ == v.map φ)) = ((a == b) && (u == v))
      rw [e, e2]
theorem tm_map (φ : Nat → Nat) (S : List Nat) (h : ∀ x ∈ S, ∀ y ∈ S, φ x = φ y → x = y) (f g : List Nat) (hf : ∀ x ∈ f, x ∈ S) (hg : ∀ x ∈ g, x ∈ S) : tm (f.map φ) (g.map φ) = tm f g := by
  unfold tm
  rw [List.length_map, List.length_map, ← List.map_take, ← List.map_drop, map_beq φ S h _ _ (fun x hx => hg x (List.mem_of_mem_take hx)) hf, map_beq φ S h _ _ (fun x hx => hg x (List.mem_of_mem_drop hx)) hf]
theorem askK_map (φ : Nat → Nat) (S : List Nat) (h : ∀ x ∈ S, ∀ y ∈ S, φ x = φ y → x = y) (p : List Nat) (hp : ∀ x ∈ p, x ∈ S) : ∀ n s, askK (p.map φ) n s = askK p n s := by
  intro n
  induction n with
  | zero => intro s; rfl
  | succ n ih =>
    intro s
    simp only [askK]
    rw [ih, ← List.map_take, tm_map φ S h _ _ (fun x hx => hp x (List.mem_of_mem_take hx)) hp, List.length_map]
theorem part_map (φ : Nat → Nat) (l : List Nat) (b n : Nat) : part (l.map φ) b n = (part l b n).map φ := by simp [part]
theorem askB_map (φ : Nat → Nat) (S : List Nat) (h : ∀ x ∈ S, ∀ y ∈ S, φ x = φ y → x = y) (l : List Nat) (hl : ∀ x ∈ l, x ∈ S) (n : Nat) : ∀ b s, askB (l.map φ) n b s = askB l n b s := by
  intro b
  induction b with
  | zero => intro s; rfl
  | succ b ih =>
    intro s
    simp only [askB]
    rw [ih, part_map, askK_map φ S h (part l b n) (fun x hx => hl x (List.mem_of_mem_drop (List.mem_of_mem_take hx)))]
theorem askL_map (φ : Nat → Nat) (S : List Nat) (h : ∀ x ∈ S, ∀ y ∈ S, φ x = φ y → x = y) (l : List Nat) (hl : ∀ x ∈ l, x ∈ S) : ∀ n, askL (l.map φ) n = askL l n := by
  intro n
  induction n with
  | zero => rfl
  | succ n ih => simp only [askL]; rw [ih, askB_map φ S h l hl]
theorem askedL_map (φ : Nat → Nat) (l : List Nat) (h : ∀ x ∈ l, ∀ y ∈ l, φ x = φ y → x = y) : askedL (l.map φ) = askedL l := by
  unfold askedL
  rw [askL_map φ l h l (fun x hx => hx)]
theorem getD_map' (φ : Nat → Nat) (l : List Nat) (i : Nat) (hi : i < l.length) : (l.map φ).getD i 0 = φ (l.getD i 0) := by
  simp [List.getD, hi]
theorem getD_mem' (l : List Nat) (i : Nat) (hi : i < l.length) : l.getD i 0 ∈ l := by
  have : l.getD i 0 = l[i] := by simp [List.getD, hi]
  rw [this]; exact List.getElem_mem hi
theorem runD_map (φ : Nat → Nat) (r : List Nat) (h : ∀ x ∈ r, ∀ y ∈ r, φ x = φ y → x = y) (a top : Nat) (ht : top + a < r.length) : ∀ t, runD (r.map φ) a top t = runD r a top t := by
  intro t
  induction t with
  | zero => rfl
  | succ t ih =>
    simp only [runD]
    rw [ih, getD_map' φ r _ (by omega), getD_map' φ r _ (by omega)]
    have m1 := getD_mem' r (top - t) (by omega)
    have m2 := getD_mem' r (top - t + a) (by omega)
    by_cases e : r.getD (top - t) 0 = r.getD (top - t + a) 0
    · rw [if_pos e, if_pos (by rw [e])]
    · rw [if_neg e, if_neg fun c => e (h _ m1 _ m2 c)]
theorem pcsD_map (φ : Nat → Nat) (r : List Nat) (h : ∀ x ∈ r, ∀ y ∈ r, φ x = φ y → x = y) (a top : Nat) (ht : top + a < r.length) : ∀ t, pcsD (r.map φ) a top t = pcsD r a top t := by
  intro t
  induction t with
  | zero => rfl
  | succ t ih => simp only [pcsD]; rw [ih, runD_map φ r h a top ht]
theorem alikeL_map (φ : Nat → Nat) (r : List Nat) (hr : r.length = 7) (h : ∀ x ∈ r, ∀ y ∈ r, φ x = φ y → x = y) : ∀ n, n ≤ 6 → alikeL (r.map φ) n = alikeL r n := by
  intro n
  induction n with
  | zero => intro _; rfl
  | succ n ih =>
    intro hn
    simp only [alikeL, pcs]
    rw [ih (by omega), pcsD_map φ r h _ _ (by omega)]
/-- the least turn that a word of four letters bears -/
noncomputable def per4 (a b c d : Nat) : Nat := if b = a ∧ c = a ∧ d = a then 1 else if c = a ∧ d = b then 2 else 4
noncomputable def per3 (a b c : Nat) : Nat := if b = a ∧ c = a then 1 else 3
noncomputable def per2 (a b : Nat) : Nat := if b = a then 1 else 2
theorem pat4 : ∀ b, b < 2 → ∀ c, c < 3 → ∀ d, d < 4 → askedL [0, b, c, d, 0, b, c] = alikeL [0, b, c, d, 0, b, c] 6 ++ [per4 0 b c d] := by decide +kernel
theorem pat3 : ∀ b, b < 2 → ∀ c, c < 3 → askedL [0, b, c, 0, b, c, 0] = alikeL [0, b, c, 0, b, c, 0] 6 ++ [per3 0 b c] := by decide +kernel
theorem pat2 : ∀ b, b < 2 → askedL [0, b, 0, b, 0, b, 0] = alikeL [0, b, 0, b, 0, b, 0] 6 ++ [per2 0 b] := by decide +kernel
theorem pat1 : askedL [0, 0, 0, 0, 0, 0, 0] = alikeL [0, 0, 0, 0, 0, 0, 0] 6 ++ [1] := by decide +kernel
/-- by a relabelling -/
theorem by_pat (φ : Nat → Nat) (p : List Nat) (n : Nat) (hp : p.length = 7) (h : ∀ x ∈ p, ∀ y ∈ p, φ x = φ y → x = y) (e : askedL p = alikeL p 6 ++ [n]) : askedL ((p.map φ).map (97 + ·)) = alikeL (p.map φ) 6 ++ [n] := by
  rw [askedL_map _ _ (fun x _ y _ e => by simpa using e), askedL_map φ p h, alikeL_map φ p hp h 6 (Nat.le_refl _), e]
theorem pq1 {a b pb : Nat} (h : (pb = 0 ∧ b = a) ∨ (pb = 1 ∧ b ≠ a)) : b = a ↔ pb = 0 := by
  rcases h with ⟨h1, h2⟩ | ⟨h1, h2⟩ <;> simp [h1, h2]
theorem pq2 {a b c pc : Nat} (h : (pc = 0 ∧ c = a) ∨ (pc = 1 ∧ c = b ∧ c ≠ a) ∨ (pc = 2 ∧ c ≠ a ∧ c ≠ b)) : c = a ↔ pc = 0 := by
  rcases h with ⟨h1, h2⟩ | ⟨h1, h2, h3⟩ | ⟨h1, h2, h3⟩
  · simp [h1, h2]
  · simp [h1, h3]
  · simp [h1, h2]
theorem pq3 {a b c d pd : Nat} (h : (pd = 0 ∧ d = a) ∨ (pd = 1 ∧ d = b ∧ d ≠ a) ∨ (pd = 2 ∧ d = c ∧ d ≠ a ∧ d ≠ b) ∨ (pd = 3 ∧ d ≠ a ∧ d ≠ b ∧ d ≠ c)) : d = a ↔ pd = 0 := by
  rcases h with ⟨h1, h2⟩ | ⟨h1, h2, h3⟩ | ⟨h1, h2, h3, h4⟩ | ⟨h1, h2, h3, h4⟩
  · simp [h1, h2]
  · simp [h1, h3]
  · simp [h1, h3]
  · simp [h1, h2]
theorem pq4 {a b c d pb pd : Nat} (hb : (pb = 0 ∧ b = a) ∨ (pb = 1 ∧ b ≠ a)) (h : (pd = 0 ∧ d = a) ∨ (pd = 1 ∧ d = b ∧ d ≠ a) ∨ (pd = 2 ∧ d = c ∧ d ≠ a ∧ d ≠ b) ∨ (pd = 3 ∧ d ≠ a ∧ d ≠ b ∧ d ≠ c)) : d = b ↔ pd = pb := by
  rcases hb with ⟨b1, b2⟩ | ⟨b1, b2⟩
  · rw [b1, b2]; exact pq3 h
  · rw [b1]
    rcases h with ⟨h1, h2⟩ | ⟨h1, h2, h3⟩ | ⟨h1, h2, h3, h4⟩ | ⟨h1, h2, h3, h4⟩
    · rw [h1, h2]; exact ⟨fun e => absurd e.symm b2, fun e => by cases e⟩
    · rw [h1]; exact ⟨fun _ => rfl, fun _ => h2⟩
    · rw [h1]; exact ⟨fun e => absurd e h4, fun e => by cases e⟩
    · rw [h1]; exact ⟨fun e => absurd e h3, fun e => by cases e⟩
theorem bk2 {a b c pb : Nat} (h : (pb = 0 ∧ b = a) ∨ (pb = 1 ∧ b ≠ a)) : (if b = a then 0 else if b = b then 1 else if b = c then 2 else 3) = pb := by
  rcases h with ⟨h1, h2⟩ | ⟨h1, h2⟩
  · rw [h1, if_pos h2]
  · rw [h1, if_neg h2, if_pos rfl]
theorem bk3 {a b c pc : Nat} (h : (pc = 0 ∧ c = a) ∨ (pc = 1 ∧ c = b ∧ c ≠ a) ∨ (pc = 2 ∧ c ≠ a ∧ c ≠ b)) : (if c = a then 0 else if c = b then 1 else if c = c then 2 else 3) = pc := by
  rcases h with ⟨h1, h2⟩ | ⟨h1, h2, h3⟩ | ⟨h1, h2, h3⟩
  · rw [h1, if_pos h2]
  · rw [h1, if_neg h3, if_pos h2]
  · rw [h1, if_neg h2, if_neg h3, if_pos rfl]
theorem bk4 {a b c d pd : Nat} (h : (pd = 0 ∧ d = a) ∨ (pd = 1 ∧ d = b ∧ d ≠ a) ∨ (pd = 2 ∧ d = c ∧ d ≠ a ∧ d ≠ b) ∨ (pd = 3 ∧ d ≠ a ∧ d ≠ b ∧ d ≠ c)) : (if d = a then 0 else if d = b then 1 else if d = c then 2 else 3) = pd := by
  rcases h with ⟨h1, h2⟩ | ⟨h1, h2, h3⟩ | ⟨h1, h2, h3, h4⟩ | ⟨h1, h2, h3, h4⟩
  · rw [h1, if_pos h2]
  · rw [h1, if_neg h3, if_pos h2]
  · rw [h1, if_neg h3, if_neg h4, if_pos h2]
  · rw [h1, if_neg h2, if_neg h3, if_neg h4]
theorem word4 (a b c d : Nat) : askedL ([a, b, c, d, a, b, c].map (97 + ·)) = alikeL [a, b, c, d, a, b, c] 6 ++ [per4 a b c d] := by
  obtain ⟨φ, hφ⟩ : ∃ φ : Nat → Nat, φ = fun i => [a, b, c, d].getD i 0 := ⟨_, rfl⟩
  have h0 : φ 0 = a := by rw [hφ]; rfl
  have h1 : φ 1 = b := by rw [hφ]; rfl
  have h2 : φ 2 = c := by rw [hφ]; rfl
  have h3 : φ 3 = d := by rw [hφ]; rfl
  obtain ⟨pb, hb2, hbv, hbi⟩ : ∃ pb, pb < 2 ∧ φ pb = b ∧ ((pb = 0 ∧ b = a) ∨ (pb = 1 ∧ b ≠ a)) := by
    by_cases e : b = a
    · exact ⟨0, by decide, by rw [h0, e], .inl ⟨rfl, e⟩⟩
    · exact ⟨1, by decide, h1, .inr ⟨rfl, e⟩⟩
  obtain ⟨pc, hc3, hcv, hci⟩ : ∃ pc, pc < 3 ∧ φ pc = c ∧ ((pc = 0 ∧ c = a) ∨ (pc = 1 ∧ c = b ∧ c ≠ a) ∨ (pc = 2 ∧ c ≠ a ∧ c ≠ b)) := by
    by_cases e : c = a
    · exact ⟨0, by decide, by rw [h0, e], .inl ⟨rfl, e⟩⟩
    · by_cases e2 : c = b
      · exact ⟨1, by decide, by rw [h1, e2], .inr (.inl ⟨rfl, e2, e⟩)⟩
      · exact ⟨2, by decide, h2, .inr (.inr ⟨rfl, e, e2⟩)⟩
  obtain ⟨pd, hd4, hdv, hdi⟩ : ∃ pd, pd < 4 ∧ φ pd = d ∧ ((pd = 0 ∧ d = a) ∨ (pd = 1 ∧ d = b ∧ d ≠ a) ∨ (pd = 2 ∧ d = c ∧ d ≠ a ∧ d ≠ b) ∨ (pd = 3 ∧ d ≠ a ∧ d ≠ b ∧ d ≠ c)) := by
    by_cases e : d = a
    · exact ⟨0, by decide, by rw [h0, e], .inl ⟨rfl, e⟩⟩
    · by_cases e2 : d = b
      · exact ⟨1, by decide, by rw [h1, e2], .inr (.inl ⟨rfl, e2, e⟩)⟩
      · by_cases e3 : d = c
        · exact ⟨2, by decide, by rw [h2, e3], .inr (.inr (.inl ⟨rfl, e3, e, e2⟩))⟩
        · exact ⟨3, by decide, h3, .inr (.inr (.inr ⟨rfl, e, e2, e3⟩))⟩
  have hper : per4 a b c d = per4 0 pb pc pd := by
    have q1 := pq1 hbi
    have q2 := pq2 hci
    have q3 := pq3 hdi
    have q4 := pq4 hbi hdi
    unfold per4
    simp only [q1, q2, q3, q4]
  have key := by_pat φ [0, pb, pc, pd, 0, pb, pc] (per4 0 pb pc pd) rfl ?_ (pat4 pb hb2 pc hc3 pd hd4)
  · simp only [List.map_cons, List.map_nil, h0, hbv, hcv, hdv] at key
    rw [hper]
    exact key
  · clear hper
    have hb : ∀ x, (x = 0 ∨ x = pb ∨ x = pc ∨ x = pd) → (if φ x = a then 0 else if φ x = b then 1 else if φ x = c then 2 else 3) = x := by
      intro x hx
      rcases hx with e | e | e | e <;> rw [e]
      · rw [h0, if_pos rfl]
      · rw [hbv]; exact bk2 hbi
      · rw [hcv]; exact bk3 hci
      · rw [hdv]; exact bk4 hdi
    have hm : ∀ x ∈ [0, pb, pc, pd, 0, pb, pc], (x = 0 ∨ x = pb ∨ x = pc ∨ x = pd) := by
      intro x hx
      simp only [List.mem_cons, List.not_mem_nil, or_false] at hx
      rcases hx with e | e | e | e | e | e | e
      · exact .inl e
      · exact .inr (.inl e)
      · exact .inr (.inr (.inl e))
      · exact .inr (.inr (.inr e))
      · exact .inl e
      · exact .inr (.inl e)
      · exact .inr (.inr (.inl e))
    intro x hx y hy e
    rw [← hb x (hm x hx), ← hb y (hm y hy), e]
theorem word3 (a b c : Nat) : askedL ([a, b, c, a, b, c, a].map (97 + ·)) = alikeL [a, b, c, a, b, c, a] 6 ++ [per3 a b c] := by
  obtain ⟨φ, hφ⟩ : ∃ φ : Nat → Nat, φ = fun i => [a, b, c].getD i 0 := ⟨_, rfl⟩
  have h0 : φ 0 = a := by rw [hφ]; rfl
  have h1 : φ 1 = b := by rw [hφ]; rfl
  have h2 : φ 2 = c := by rw [hφ]; rfl
  obtain ⟨pb, hb2, hbv, hbi⟩ : ∃ pb, pb < 2 ∧ φ pb = b ∧ ((pb = 0 ∧ b = a) ∨ (pb = 1 ∧ b ≠ a)) := by
    by_cases e : b = a
    · exact ⟨0, by decide, by rw [h0, e], .inl ⟨rfl, e⟩⟩
    · exact ⟨1, by decide, h1, .inr ⟨rfl, e⟩⟩
  obtain ⟨pc, hc3, hcv, hci⟩ : ∃ pc, pc < 3 ∧ φ pc = c ∧ ((pc = 0 ∧ c = a) ∨ (pc = 1 ∧ c = b ∧ c ≠ a) ∨ (pc = 2 ∧ c ≠ a ∧ c ≠ b)) := by
    by_cases e : c = a
    · exact ⟨0, by decide, by rw [h0, e], .inl ⟨rfl, e⟩⟩
    · by_cases e2 : c = b
      · exact ⟨1, by decide, by rw [h1, e2], .inr (.inl ⟨rfl, e2, e⟩)⟩
      · exact ⟨2, by decide, h2, .inr (.inr ⟨rfl, e, e2⟩)⟩
  have hper : per3 a b c = per3 0 pb pc := by
    have q1 := pq1 hbi
    have q2 := pq2 hci
    unfold per3
    simp only [q1, q2]
  have key := by_pat φ [0, pb, pc, 0, pb, pc, 0] (per3 0 pb pc) rfl ?_ (pat3 pb hb2 pc hc3)
  · simp only [List.map_cons, List.map_nil, h0, hbv, hcv] at key
    rw [hper]
    exact key
  · clear hper
    have hb : ∀ x, (x = 0 ∨ x = pb ∨ x = pc) → (if φ x = a then 0 else if φ x = b then 1 else if φ x = c then 2 else 3) = x := by
      intro x hx
      rcases hx with e | e | e <;> rw [e]
      · rw [h0, if_pos rfl]
      · rw [hbv]; exact bk2 hbi
      · rw [hcv]; exact bk3 hci
    have hm : ∀ x ∈ [0, pb, pc, 0, pb, pc, 0], (x = 0 ∨ x = pb ∨ x = pc) := by
      intro x hx
      simp only [List.mem_cons, List.not_mem_nil, or_false] at hx
      rcases hx with e | e | e | e | e | e | e
      · exact .inl e
      · exact .inr (.inl e)
      · exact .inr (.inr e)
      · exact .inl e
      · exact .inr (.inl e)
      · exact .inr (.inr e)
      · exact .inl e
    intro x hx y hy e
    rw [← hb x (hm x hx), ← hb y (hm y hy), e]
theorem word2 (a b : Nat) : askedL ([a, b, a, b, a, b, a].map (97 + ·)) = alikeL [a, b, a, b, a, b, a] 6 ++ [per2 a b] := by
  have := word4 a b a b
  rw [this]
  congr 2
  unfold per4 per2
  by_cases e : b = a <;> simp [e]
theorem word1 (a : Nat) : askedL ([a, a, a, a, a, a, a].map (97 + ·)) = alikeL [a, a, a, a, a, a, a] 6 ++ [1] := by
  have := word4 a a a a
  rw [this]
  congr 2
  unfold per4
  simp
theorem rem_pow (top W n : Nat) (h : top < W) : remD top W n = top ↔ 16 ^ n % (W / Nat.gcd W top) = 1 % (W / Nat.gcd W top) := by
  rw [remD_is top W h]
  have hg : 0 < Nat.gcd W top := Nat.gcd_pos_of_pos_left _ (by omega)
  have hco : Nat.Coprime (W / Nat.gcd W top) (top / Nat.gcd W top) := Nat.coprime_div_gcd_div_gcd hg
  have eW : W = Nat.gcd W top * (W / Nat.gcd W top) := (Nat.mul_div_cancel' (Nat.gcd_dvd_left W top)).symm
  have eT : top = Nat.gcd W top * (top / Nat.gcd W top) := (Nat.mul_div_cancel' (Nat.gcd_dvd_right W top)).symm
  generalize W / Nat.gcd W top = b at *
  generalize top / Nat.gcd W top = t at *
  generalize Nat.gcd W top = g at *
  have h16 : 1 ≤ 16 ^ n := Nat.pos_of_ne_zero (by simp)
  have hsub : 16 ^ n % b = 1 % b ↔ b ∣ 16 ^ n - 1 := by
    constructor
    · intro e; exact Nat.dvd_of_mod_eq_zero (Nat.sub_mod_eq_zero_of_mod_eq e)
    · rintro ⟨k, hk⟩
      have : 16 ^ n = 1 + b * k := by omega
      rw [this, Nat.add_mul_mod_self_left]
  rw [hsub]
  have ht : top % W = top := Nat.mod_eq_of_lt h
  have hsub2 : top * 16 ^ n % W = top ↔ W ∣ top * (16 ^ n - 1) := by
    have e : top * 16 ^ n = top + top * (16 ^ n - 1) := by
      rw [Nat.mul_sub, Nat.mul_one]
      have : top * 1 ≤ top * 16 ^ n := Nat.mul_le_mul_left _ h16
      omega
    constructor
    · intro x
      have : top * 16 ^ n % W = top % W := by rw [x, ht]
      have y := Nat.sub_mod_eq_zero_of_mod_eq this
      rw [e, Nat.add_sub_cancel_left] at y
      exact Nat.dvd_of_mod_eq_zero y
    · rintro ⟨k, hk⟩
      rw [e, hk, Nat.add_mul_mod_self_left, ht]
  rw [hsub2, eW, eT, Nat.mul_assoc]
  rw [Nat.mul_dvd_mul_iff_left hg]
  constructor
  · intro x; exact hco.dvd_of_dvd_mul_left x
  · intro x; exact Nat.dvd_trans x (Nat.dvd_mul_left _ _)
theorem dig4 {x y z w x' y' z' w' : Nat} (hx : x < 16) (hy : y < 16) (hz : z < 16) (hw : w < 16) (hx' : x' < 16) (hy' : y' < 16) (hz' : z' < 16) (hw' : w' < 16)
    (e : 4096 * x + 256 * y + 16 * z + w = 4096 * x' + 256 * y' + 16 * z' + w') : x = x' ∧ y = y' ∧ z = z' ∧ w = w' := by
  obtain rfl : x = x' := by omega
  obtain rfl : y = y' := by omega
  obtain rfl : z = z' := by omega
  exact ⟨rfl, rfl, rfl, by omega⟩
/-- what the law asks of the figures: one number serves both -/
theorem plain (sz : Nat) (hs : sz < 4) (W top : Nat) (hW : W = 1 * 2 ^ (4 * (sz + 1)) - 1) (ht : top < W) :
    ∃ n, 1 ≤ n ∧ 16 ^ n % (W / Nat.gcd W top) = 1 % (W / Nat.gcd W top) ∧ (∀ j, 1 ≤ j → j < n → 16 ^ j % (W / Nat.gcd W top) ≠ 1 % (W / Nat.gcd W top)) ∧
      askedL ((rowD top W 7).map (97 + ·)) = alikeL (rowD top W 7) 6 ++ [n] := by
  suffices ∃ n, 1 ≤ n ∧ remD top W n = top ∧ (∀ j, 1 ≤ j → j < n → remD top W j ≠ top) ∧ askedL ((rowD top W 7).map (97 + ·)) = alikeL (rowD top W 7) 6 ++ [n] by
    obtain ⟨n, h1, h2, h3, h4⟩ := this
    exact ⟨n, h1, (rem_pow top W n ht).mp h2, fun j a b c => h3 j a b ((rem_pow top W j ht).mpr c), h4⟩
  have hc : sz = 0 ∨ sz = 1 ∨ sz = 2 ∨ sz = 3 := by omega
  rcases hc with rfl | rfl | rfl | rfl
  · obtain rfl : W = 15 := hW
    have r : ∀ n, remD top 15 n = top := by
      intro n; induction n with
      | zero => rfl
      | succ n ih => simp only [remD]; rw [ih]; omega
    have e : rowD top 15 7 = [top, top, top, top, top, top, top] := by
      have f : 16 * top / 15 = top := by omega
      simp only [rowD, r, f, List.nil_append, List.cons_append]
    refine ⟨1, by decide, r 1, fun j a b => by omega, ?_⟩
    rw [e]; exact word1 top
  · obtain rfl : W = 255 := hW
    obtain ⟨a, b, ha, hb, rfl⟩ : ∃ a b, a < 16 ∧ b < 16 ∧ top = 16 * a + b := ⟨top / 16, top % 16, by omega, by omega, by omega⟩
    have rot : ∀ a b, a < 16 → b < 16 → 16 * a + b < 255 → 16 * (16 * a + b) / 255 = a ∧ 16 * (16 * a + b) % 255 = 16 * b + a := by intro a b _ _ _; omega
    have r0 : remD (16 * a + b) 255 0 = 16 * a + b := rfl
    have r1 : remD (16 * a + b) 255 1 = 16 * b + a := (rot a b ha hb ht).2
    have r2 : remD (16 * a + b) 255 2 = 16 * a + b := by show 16 * remD _ 255 1 % 255 = _; rw [r1]; exact (rot b a hb ha (by omega)).2
    have r3 : remD (16 * a + b) 255 3 = 16 * b + a := by show 16 * remD _ 255 2 % 255 = _; rw [r2]; exact (rot a b ha hb ht).2
    have r4 : remD (16 * a + b) 255 4 = 16 * a + b := by show 16 * remD _ 255 3 % 255 = _; rw [r3]; exact (rot b a hb ha (by omega)).2
    have r5 : remD (16 * a + b) 255 5 = 16 * b + a := by show 16 * remD _ 255 4 % 255 = _; rw [r4]; exact (rot a b ha hb ht).2
    have r6 : remD (16 * a + b) 255 6 = 16 * a + b := by show 16 * remD _ 255 5 % 255 = _; rw [r5]; exact (rot b a hb ha (by omega)).2
    have f1 := (rot a b ha hb ht).1
    have f2 := (rot b a hb ha (by omega)).1
    have e : rowD (16 * a + b) 255 7 = [a, b, a, b, a, b, a] := by
      simp only [rowD, r0, r1, r2, r3, r4, r5, r6, f1, f2, List.nil_append, List.cons_append]
    refine ⟨per2 a b, ?_, ?_, ?_, by rw [e]; exact word2 a b⟩
    · unfold per2; split <;> decide
    · unfold per2; split
      · rw [r1]; omega
      · exact r2
    · unfold per2; split
      · intro j _ _; omega
      · intro j h1 h2
        obtain rfl : j = 1 := by omega
        rw [r1]; omega
  · obtain rfl : W = 4095 := hW
    obtain ⟨a, b, c, ha, hb, hc, rfl⟩ : ∃ a b c, a < 16 ∧ b < 16 ∧ c < 16 ∧ top = 256 * a + 16 * b + c := ⟨top / 256, top / 16 % 16, top % 16, by omega, by omega, by omega, by omega⟩
    have rot : ∀ a b c, a < 16 → b < 16 → c < 16 → 256 * a + 16 * b + c < 4095 → 16 * (256 * a + 16 * b + c) / 4095 = a ∧ 16 * (256 * a + 16 * b + c) % 4095 = 256 * b + 16 * c + a := by intro a b c _ _ _ _; omega
    have x1 := rot a b c ha hb hc ht
    have x2 := rot b c a hb hc ha (by omega)
    have x3 := rot c a b hc ha hb (by omega)
    have r0 : remD (256 * a + 16 * b + c) 4095 0 = 256 * a + 16 * b + c := rfl
    have r1 : remD (256 * a + 16 * b + c) 4095 1 = 256 * b + 16 * c + a := x1.2
    have r2 : remD (256 * a + 16 * b + c) 4095 2 = 256 * c + 16 * a + b := by show 16 * remD _ 4095 1 % 4095 = _; rw [r1]; exact x2.2
    have r3 : remD (256 * a + 16 * b + c) 4095 3 = 256 * a + 16 * b + c := by show 16 * remD _ 4095 2 % 4095 = _; rw [r2]; exact x3.2
    have r4 : remD (256 * a + 16 * b + c) 4095 4 = 256 * b + 16 * c + a := by show 16 * remD _ 4095 3 % 4095 = _; rw [r3]; exact x1.2
    have r5 : remD (256 * a + 16 * b + c) 4095 5 = 256 * c + 16 * a + b := by show 16 * remD _ 4095 4 % 4095 = _; rw [r4]; exact x2.2
    have r6 : remD (256 * a + 16 * b + c) 4095 6 = 256 * a + 16 * b + c := by show 16 * remD _ 4095 5 % 4095 = _; rw [r5]; exact x3.2
    have e : rowD (256 * a + 16 * b + c) 4095 7 = [a, b, c, a, b, c, a] := by
      simp only [rowD, r0, r1, r2, r3, r4, r5, r6, x1.1, x2.1, x3.1, List.nil_append, List.cons_append]
    refine ⟨per3 a b c, ?_, ?_, ?_, by rw [e]; exact word3 a b c⟩
    · unfold per3; split <;> decide
    · unfold per3; split
      · rw [r1]; omega
      · exact r3
    · unfold per3; split
      · intro j _ _; omega
      · intro j h1 h2
        have hj : j = 1 ∨ j = 2 := by omega
        rcases hj with rfl | rfl
        · rw [r1]; omega
        · rw [r2]; omega
  · obtain rfl : W = 65535 := hW
    obtain ⟨a, b, c, d, ha, hb, hc, hd, rfl⟩ : ∃ a b c d, a < 16 ∧ b < 16 ∧ c < 16 ∧ d < 16 ∧ top = 4096 * a + 256 * b + 16 * c + d := ⟨top / 4096, top / 256 % 16, top / 16 % 16, top % 16, by omega, by omega, by omega, by omega, by omega⟩
    have rot : ∀ a b c d, a < 16 → b < 16 → c < 16 → d < 16 → 4096 * a + 256 * b + 16 * c + d < 65535 → 16 * (4096 * a + 256 * b + 16 * c + d) / 65535 = a ∧ 16 * (4096 * a + 256 * b + 16 * c + d) % 65535 = 4096 * b + 256 * c + 16 * d + a := by intro a b c d _ _ _ _ _; omega
    have x1 := rot a b c d ha hb hc hd ht
    have x2 := rot b c d a hb hc hd ha (by omega)
    have x3 := rot c d a b hc hd ha hb (by omega)
    have x4 := rot d a b c hd ha hb hc (by omega)
    have r0 : remD (4096 * a + 256 * b + 16 * c + d) 65535 0 = 4096 * a + 256 * b + 16 * c + d := rfl
    have r1 : remD (4096 * a + 256 * b + 16 * c + d) 65535 1 = 4096 * b + 256 * c + 16 * d + a := x1.2
    have r2 : remD (4096 * a + 256 * b + 16 * c + d) 65535 2 = 4096 * c + 256 * d + 16 * a + b := by show 16 * remD _ 65535 1 % 65535 = _; rw [r1]; exact x2.2
    have r3 : remD (4096 * a + 256 * b + 16 * c + d) 65535 3 = 4096 * d + 256 * a + 16 * b + c := by show 16 * remD _ 65535 2 % 65535 = _; rw [r2]; exact x3.2
    have r4 : remD (4096 * a + 256 * b + 16 * c + d) 65535 4 = 4096 * a + 256 * b + 16 * c + d := by show 16 * remD _ 65535 3 % 65535 = _; rw [r3]; exact x4.2
    have r5 : remD (4096 * a + 256 * b + 16 * c + d) 65535 5 = 4096 * b + 256 * c + 16 * d + a := by show 16 * remD _ 65535 4 % 65535 = _; rw [r4]; exact x1.2
    have r6 : remD (4096 * a + 256 * b + 16 * c + d) 65535 6 = 4096 * c + 256 * d + 16 * a + b := by show 16 * remD _ 65535 5 % 65535 = _; rw [r5]; exact x2.2
    have e : rowD (4096 * a + 256 * b + 16 * c + d) 65535 7 = [a, b, c, d, a, b, c] := by
      simp only [rowD, r0, r1, r2, r3, r4, r5, r6, x1.1, x2.1, x3.1, x4.1, List.nil_append, List.cons_append]
    refine ⟨per4 a b c d, ?_, ?_, ?_, by rw [e]; exact word4 a b c d⟩
    all_goals clear x1 x2 x3 x4 rot r5 r6 e
    · unfold per4; split
      · decide
      · split <;> decide
    · unfold per4; split
      · rw [r1]; omega
      · split
        · rw [r2]; omega
        · exact r4
    · unfold per4; split
      · intro j _ _; omega
      · split
        · intro j h1 h2 e
          obtain rfl : j = 1 := by omega
          rw [r1] at e
          have := dig4 hb hc hd ha ha hb hc hd e
          omega
        · intro j h1 h2 e
          have hj : j = 1 ∨ j = 2 ∨ j = 3 := by omega
          rcases hj with rfl | rfl | rfl
          · rw [r1] at e
            have := dig4 hb hc hd ha ha hb hc hd e
            omega
          · rw [r2] at e
            have := dig4 hc hd ha hb ha hb hc hd e
            omega
          · rw [r3] at e
            have := dig4 hd ha hb hc ha hb hc hd e
            omega
/-! part tail -/
theorem bytes_same {b c : Array UInt8} (h : KBw.bInts b = KBw.bInts c) : b.toList = c.toList := by
  have inj : ∀ x y : List UInt8, x.map (fun c => ((c.toNat : Nat) : Int)) = y.map (fun c => ((c.toNat : Nat) : Int)) → x = y := by
    intro x
    induction x with
    | nil => intro y e; cases y with
      | nil => rfl
      | cons => cases e
    | cons a x ih => intro y e; cases y with
      | nil => cases e
      | cons b y =>
        rw [List.map_cons, List.map_cons] at e
        obtain ⟨e1, e2⟩ := List.cons.inj e
        rw [ih y e2, UInt8.toNat_inj.mp (Int.ofNat.inj e1)]
  exact inj _ _ h
section
variable {prog : Program} {w : World} {mean : ExcName → Option Value} {mg mb : Str → Option Value}
theorem law_tail {A : Around} {base h₀ : Heap} {outer : List Env} {L a Dr D6 : Addr} {cdv : Value} {h : Heap} {g : Array GenState} {dr : Drawn} {tk : Nat} {o : OsState} {m : Str → Option Value} {xs row : List Nat} {us ws : List Value} {n : Nat} {W top : Nat} {bw : Array UInt8} {t5 tw tp : Tok} {N1 : Nat}
    (B : Below A base outer h₀) (F : Fr h₀ L h m) (N : News h₀ L h [(Dr, listOf ws.toArray n), (D6, listOf us.toArray 0)]) (T : Top q loose mean mg mb h₀) (X : Ext prog w mg h₀) (lv : Lv 0 A) (hh : A.handled = none)
    (hDr : Dr ≠ D6) (hws : Nats ws row) (hus : IntsAre us (zs xs)) (hx5 : xs.length = 5) (hrl : row.length = 7) (hr16 : ∀ d ∈ row, d < 16) (hbw : KBw.bInts bw = apI (1 :: row))
    (f2 : m "whole" = some (.int (W : Int) tw)) (f3 : m "top" = some (.int (top : Int) tp)) (f4 : m "row" = some (.ref Dr)) (f5 : m "drawn" = some (.ref D6)) (f6 : m "word" = some (.bytes bw t5))
    (hW0 : 0 < W) (hW1 : W < 1048576) (htop : top < 1048576) (hN1 : 1 ≤ N1) (hp1 : 16 ^ N1 % (W / Nat.gcd W top) = 1 % (W / Nat.gcd W top)) (hp2 : ∀ j, 1 ≤ j → j < N1 → 16 ^ j % (W / Nat.gcd W top) ≠ 1 % (W / Nat.gcd W top))
    (hlaw : askedL (row.map (97 + ·)) = alikeL row 6 ++ [N1]) :
    wpAny (model prog w) (A.deeper (envOf (recOf "law").name (recOf "law").scope L a cdv)) (execs ((recOf "law").body.drop 11) (envOf (recOf "law").name (recOf "law").scope L a cdv)) (Rt (fun v _ _ => v = .bool true) h₀ g dr o) (fun _ _ => False) ⟨h, g, dr, tk, o⟩ := by
  refine with_rec (P := fun nm bd sc => wpAny (model prog w) (A.deeper (envOf nm sc L a cdv)) (execs (bd.drop 11) (envOf nm sc L a cdv)) (Rt (fun v _ _ => v = .bool true) h₀ g dr o) (fun _ _ => False) ⟨h, g, dr, tk, o⟩) rfl ?_
  simp only [List.drop_succ_cons, List.drop_zero]
  repeat' walk_at "ev"
  have hla := ‹∀ p ∈ [(Dr, listOf _ _), (D6, listOf _ _)], p.1 < _›
  refine LCg.ListComp_U (F₀ := by assumption) rfl (by decide) (by rfl) (by decide) (by rfl) ?_
  repeat' walk_at "ev"
  refine LCg.CompSrc.ledger (by first | rfl | exact hh) (by assumption) (by assumption) (.tail _ (.head _)) (by rw [List.size_toArray, hws.1, hrl]; decide) ?_
  intro g1
  refine comp_ind ws.length (fun i ys => Nats ys ((row.map (65 + ·)).take i)) (.inr ⟨_, .tail _ (.head _), rfl, _, rfl⟩) ?_ ?_ _ 0 [] (by rw [List.size_toArray]; omega) Nats.nil
  · intro i ys v I oI C oC D2 m₂ h2 tk2 E' hil hys hv hoC hx F2 N2
    have hir : i < row.length := by rw [← hws.1]; exact hil
    obtain ⟨tv, hv'⟩ := hws.2 i _ (List.getElem?_eq_getElem hir)
    obtain rfl : v = .int ((row[i] : Nat) : Int) tv := by
      have : some v = some (Value.int ((row[i] : Nat) : Int) tv) := by rw [← hv', ← hv]; simp
      exact Option.some.inj this
    repeat' walk_at "ev"
    refine ldVarK (hoC.ns (N2 _ (.tail _ (.head _))).1) hx ?_ rfl rfl (by decide)
    repeat' walk_at "ev"
    refine ⟨_, _, rfl, F2, N2, ?_⟩
    have hm : (row.map (65 + ·))[i]? = some (65 + row[i]) := by simp [hir]
    rw [take_snoc hm]
    exact hys.push
  · intro ys hys
    rw [List.take_of_length_le (by rw [List.length_map, hws.1]; exact Nat.le_refl _)] at hys
    unfold LCg.FinE
    intro D3 h3 tk3 F3 N3 off3
    repeat' walk_at "ev"
    dsimp only
    have hml : (row.map (65 + ·)).length = 7 := by rw [List.length_map, hrl]
    refine addL (c := [66]) (d := row.map (65 + ·)) F3 N3 (News.isList N3 (.tail _ (.head _))) (News.isList N3 (.head _)) (.cons _ _ .nil) (ints_of_nats hys) (by decide) (by omega) ?_
    intro D4 us4 h4 F4 N4 lt4 hus4
    repeat' walk_at "ev"
    have hin : KBa.In (zs ([66] ++ row.map (65 + ·))) := by
      intro z hz
      obtain ⟨y, hy, rfl⟩ := List.mem_map.mp hz
      rcases List.mem_append.mp hy with hy | hy
      · obtain rfl := List.mem_singleton.mp hy; decide
      · obtain ⟨d, hd, rfl⟩ := List.mem_map.mp hy
        have := hr16 d hd
        omega
    refine KBa.make_K F4 N4 (by first | rfl | exact hh) (News.isList N4 (.head _)) hus4 hin (by rw [zs_len, List.length_append, hml]; decide) ?_
    intro h6 t6 k6 F6 N6 _
    repeat' walk_at "ev"
    refine PySem.W.ne_bytes ?_
    have hsame : bw.toList = (byteArr (zs ([66] ++ row.map (65 + ·)))).toList := by
      refine bytes_same ?_
      rw [KBa.ints_make hin, hbw]
      simp [apI, zs]
    rw [hsame, bne_self_eq_false]
    repeat' walk_at "ev"
    refine ifB (fun hx => nomatch hx) (fun _ => ?_)
    repeat' walk_at "ev"
    dsimp only
    have hkl : (apI (1 :: row)).length = 8 := by simp [apI, hrl]
    refine slB (ks := apI (1 :: row)) F6 N6 hbw (.int _ _) .none (by rw [hkl]; decide) ?_
    intro b7 t7 h7 tk7 F7 N7 eb7
    have eb7' : KBw.bInts b7 = row.map fun d => ((65 + d : Nat) : Int) := by
      rw [eb7, hkl]
      show ((apI (1 :: row)).drop (clipAt 8 ((1 : Nat) : Int))).take (8 - clipAt 8 ((1 : Nat) : Int)) = _
      rw [clip_nat]
      show (apI row).take 7 = _
      rw [List.take_of_length_le (by simp [apI, hrl])]
      rfl
    clear eb7
    repeat' walk_at "ev"
    refine ⟨F7.keep, ?_⟩
    refine call_of_cn (spelled_spec (k := 0) (ds := row) (xs := xs) (by decide) eb7' hr16 (by omega) hx5 (nats_of_ints hus)) B F7 N7 T X (by assumption) lv rfl (News.isList N7 (.tail _ (.tail _ (.tail _ (.tail _ (.head _)))))) ?_
    rintro _ h8 tk8 F8 N8 _ ⟨Ds, wsS, nS, rfl, hDs, hDsn, hCh⟩
    have N8' : News h₀ L h8 [(Ds, listOf wsS.toArray nS), (Dr, listOf ws.toArray n), (D6, listOf us.toArray 0)] := newsPut F7 (fun p hp => N8 p (.tail _ (.tail _ (.tail _ hp)))) hDsn hDs
    clear N8
    repeat' walk_at "ev"
    generalize hsp : spell row xs row.length = sp at *
    have hspl : sp.length ≤ 14 := by rw [← hsp]; have := spell_len row xs row.length; omega
    have hgood : ∀ c ∈ sp, keepC c = true → ∃ i, i < 16 ∧ lowC c = 97 + i ∧ (c = 65 + i ∨ c = 97 + i ∨ ∃ j ∈ ([0, 1, 2, 4, 7, 8, 9, 10, 11, 12] : List Nat), c = 119808 + i + 52 * j) := by
      rw [← hsp]; exact spell_good row xs hr16 _ (Nat.le_refl _)
    have hlet : letters sp = row.map (97 + ·) := by
      rw [← hsp, spell_letters row xs hr16 _ (Nat.le_refl _), List.take_of_length_le (Nat.le_refl _)]
    refine LCt.ListComp_T (F₀ := by assumption) rfl (by decide) (by rfl) (by decide) (by rfl) ?_
    repeat' walk_at "ev"
    refine LCt.CompSrcT.ledger (by first | rfl | exact hh) (by assumption) (by assumption) (.head _) (by rw [List.size_toArray, hCh.1]; exact Nat.le_trans hspl (by decide)) ?_
    intro g2
    refine comp_indT wsS.length (fun i ys => Chrs ys (letters (sp.take i))) (.inr ⟨_, .head _, rfl, _, rfl⟩) ?_ ?_ _ 0 [] (by rw [List.size_toArray]; omega) Chrs.nil
    · intro i ys v I oI C oC D2 m₂ h2 tk2 E' hil hys hv hoC hx F2 N2
      have hir : i < sp.length := by rw [← hCh.1]; exact hil
      obtain ⟨tv, hv'⟩ := hCh.2 i _ (List.getElem?_eq_getElem hir)
      have hcm : sp[i] ∈ sp := List.getElem_mem hir
      have htk : sp.take (i + 1) = sp.take i ++ [sp[i]] := take_snoc (List.getElem?_eq_getElem hir)
      generalize sp[i] = c at *
      obtain rfl : v = .str (tx [c]) tv := by
        have : some v = some (Value.str (tx [c]) tv) := by rw [← hv', ← hv]; simp
        exact Option.some.inj this
      rw [htk, letters_app]
      repeat' walk_at "ev"
      refine isTrue_not (isTrue_plain ?_)
      refine callDefE (recOf "in_table_b1") F2 T rec_in_b1 rfl rfl rfl (by decide +kernel) rfl ?_
      intro fb Eb
      repeat' walk_at "ev"
      refine ldVarK (hoC.ns (N2 _ (.tail _ (.head _))).1) hx ?_ rfl rfl (by decide)
      repeat' walk_at "ev"
      refine ⟨F2.keep, ?_⟩
      refine call_of_cn (inb1_spec (k := 0) (by decide)) B F2 N2 T X Eb lv rfl trivial ?_
      rintro _ h9 tk9 F9 N9 _ rfl
      repeat' walk_at "ev"
      cases hkc : decide ((c : Int) ∈ b1L) with
      | true =>
        simp only [Bool.not_true, Bool.false_eq_true, if_false]
        refine ⟨_, _, rfl, F9, N9, ?_⟩
        have hk0 : letters [c] = [] := by simp [letters, keepC, hkc]
        rw [hk0, List.append_nil]
        exact hys
      | false =>
        simp only [Bool.not_false, if_true]
        have hk1 : keepC c = true := by simp [keepC, hkc]
        obtain ⟨j, hj16, hlow, hcj⟩ := hgood c hcm hk1
        have hk0 : letters [c] = [97 + j] := by simp [letters, hk1, hlow]
        rw [hk0]
        refine callDefE (recOf "map_table_b3") F9 T rec_map_b3 rfl rfl rfl (by decide +kernel) rfl ?_
        intro fm Em
        repeat' walk_at "ev"
        refine ldVarK (hoC.ns (N9 _ (.tail _ (.head _))).1) hx ?_ rfl rfl (by decide)
        repeat' walk_at "ev"
        refine ⟨F9.keep, ?_⟩
        refine call_of_cn (mapb3_spec (k := 0) (by decide) hj16 hcj) B F9 N9 T X Em lv rfl trivial ?_
        rintro _ ha tka Fa Na _ ⟨tz, rfl⟩
        refine ⟨_, _, rfl, Fa, Na, ?_⟩
        exact hys.push
    · intro ys hys
      rw [List.take_of_length_le (by rw [hCh.1]; exact Nat.le_refl _), hlet] at hys
      unfold LCg.FinE
      intro D9 h9 tk9 F9 N9 off9
      repeat' walk_at "ev"
      refine joinT (News.isList N9 (.head _)) hys (by rw [List.length_map]; omega) ?_
      intro tj tkj
      repeat' walk_at "ev"
      refine LCg.ListComp_U (F₀ := by assumption) rfl (by decide) (by rfl) (by decide) (by rfl) ?_
      repeat' walk_at "ev"
      have Nq := ‹News h₀ L _ _›
      have hrm : (Dr, listOf ws.toArray n) ∈ [(Ds, listOf wsS.toArray nS), (Dr, listOf ws.toArray n), (D6, listOf us.toArray 0)] := .tail _ (.head _)
      refine LCg.CompSrc.ledger (news := [(Ds, listOf wsS.toArray nS), (Dr, listOf ws.toArray n), (D6, listOf us.toArray 0)]) (by first | rfl | exact hh) (by assumption) (fun p hp => Nq p (.tail _ hp)) hrm (by rw [List.size_toArray, hws.1, hrl]; decide) ?_
      intro g3
      refine comp_ind ws.length (fun i ys => Chrs ys ((row.map (97 + ·)).take i)) (.inr ⟨_, hrm, rfl, _, rfl⟩) ?_ ?_ _ 0 [] (by rw [List.size_toArray]; omega) Chrs.nil
      · intro i ys v I oI C oC D2 m₂ h2 tk2 E' hil hys hv hoC hx F2 N2
        have hir : i < row.length := by rw [← hws.1]; exact hil
        obtain ⟨tv, hv'⟩ := hws.2 i _ (List.getElem?_eq_getElem hir)
        have hd16 := hr16 _ (List.getElem_mem hir)
        have hm : (row.map (97 + ·))[i]? = some (97 + row[i]) := by simp [hir]
        generalize row[i] = d at *
        obtain rfl : v = .int (d : Int) tv := by
          have : some v = some (Value.int (d : Int) tv) := by rw [← hv', ← hv]; simp
          exact Option.some.inj this
        repeat' walk_at "ev"
        refine chrE F2 T ?_ rfl rfl rfl rfl
        repeat' walk_at "ev"
        refine ldVarK (hoC.ns (N2 _ (.tail _ (.head _))).1) hx ?_ rfl rfl (by decide)
        repeat' walk_at "ev"
        refine chrN (by show 97 + d ≤ 1114111; omega) ?_
        intro _ _
        refine ⟨_, _, rfl, F2, N2, ?_⟩
        rw [take_snoc hm]
        exact hys.push
      · intro ys hys
        rw [List.take_of_length_le (by rw [List.length_map, hws.1]; exact Nat.le_refl _)] at hys
        unfold LCg.FinE
        intro Da ha tka Fa Na offa
        repeat' walk_at "ev"
        refine joinT (News.isList Na (.head _)) hys (by rw [List.length_map]; omega) ?_
        intro tj2 tkj2
        repeat' walk_at "ev"
        refine ne_tx ?_
        rw [bne_self_eq_false]
        repeat' walk_at "ev"
        refine ifB (fun hx => nomatch hx) (fun _ => ?_)
        repeat' walk_at "ev"
        refine ⟨Fa.keep, ?_⟩
        have hl7 : (row.map (97 + ·)).length = 7 := by rw [List.length_map, hrl]
        refine call_of_cn (asked_spec (k := 0) (l := row.map (97 + ·)) (by decide) hl7 (by
          intro c hc
          obtain ⟨d, _, rfl⟩ := List.mem_map.mp hc
          omega)) B Fa Na T X (by assumption) lv rfl trivial ?_
        rintro _ hb tkb Fb Nb _ ⟨Dq, wsq, nq, rfl, hDq, hDqn, hNq⟩
        have Nb' := newsPut Fa Nb hDqn hDq
        have hoffb := newsOff Na hDqn
        clear Nb
        repeat' walk_at "ev"
        refine ⟨Fb.keep, ?_⟩
        refine call_of_cn (alike_spec (k := 0) (r := row) (by decide) hrl hws) B Fb Nb' T X (by assumption) lv rfl (News.isList Nb' (.tail _ (.tail _ (.tail _ (.head _))))) ?_
        rintro _ hc tkc Fc Nc _ ⟨De, wse, ne, rfl, hDe, hDen, hNe⟩
        have Nc' := newsPut Fb Nc hDen hDe
        clear Nc
        repeat' walk_at "ev"
        refine ⟨Fc.keep, ?_⟩
        refine call_of_cn (order_spec (k := 0) (by decide) hW0 hW1 htop N1 hN1 hp1 hp2) B Fc Nc' T X (by assumption) lv rfl trivial ?_
        rintro _ hd tkd Fd Nd _ ⟨to, rfl⟩
        repeat' walk_at "ev"
        have Ne := ‹News h₀ L _ _›
        have Fe := ‹Fr h₀ L _ _›
        have hal : ∀ k, (alikeL row k).length = k := by
          intro k; induction k with
          | zero => rfl
          | succ k ih => simp [alikeL, ih]
        refine addL (c := alikeL row 6) (d := [N1]) Fe Ne (News.isList Ne (.tail _ (.head _))) (News.isList Ne (.head _)) (ints_of_nats hNe) (.cons _ _ .nil) (by rw [hal]; decide) (by show 1 ≤ 100; decide) ?_
        intro Dz usz hz Fz Nz ltz husz
        dsimp only
        refine eq_intsK (News.isList Nz (.tail _ (.tail _ (.tail _ (.head _))))) (ints_of_nats hNq) (News.isList Nz (.head _)) husz (by show A.units + 3 + 64 < 9900; have := lv.2.2; omega) ?_
        rw [hlaw, decide_eq_true rfl]
        repeat' walk_at "ev"
        rfl
end
/-! part law -/
section
variable {prog : Program} {w : World} {mean : ExcName → Option Value} {mg mb : Str → Option Value}
theorem law_walk {A : Around} {base h₀ : Heap} {outer : List Env} {L a D : Addr} {cdv : Value} {h : Heap} {g : Array GenState} {dr : Drawn} {tk : Nat} {o : OsState} {ns : List Int} {vs : List Value}
    (B : Below A base outer h₀) (F : Fr h₀ L h (fun x => [((("script" : Str)), Value.ref D)].reverse.lookup x)) (N : News h₀ L h []) (T : Top q loose mean mg mb h₀) (X : Ext prog w mg h₀) (lv : Lv 0 A) (hh : A.handled = none)
    (hD : h₀.IsList D vs.toArray) (hi : IntsAre vs ns) (hn : ns.length ≤ 63) :
    wpAny (model prog w) (A.deeper (envOf (recOf "law").name (recOf "law").scope L a cdv)) (execs (recOf "law").body (envOf (recOf "law").name (recOf "law").scope L a cdv)) (Rt (fun v _ _ => v = .bool true) h₀ g dr o) (fun _ _ => False) ⟨h, g, dr, tk, o⟩ := by
  refine with_rec (P := fun nm bd sc => wpAny (model prog w) (A.deeper (envOf nm sc L a cdv)) (execs bd (envOf nm sc L a cdv)) (Rt (fun v _ _ => v = .bool true) h₀ g dr o) (fun _ _ => False) ⟨h, g, dr, tk, o⟩) rfl ?_
  repeat' walk_at "ev"
  refine LCg.Assign_ListComp_U (F₀ := F) rfl (by with_unfolding_all rfl) (by rfl) (by decide) (by rfl) (by decide) (by rfl) (by rfl) (by rfl) ?_
  repeat' walk_at "ev"
  refine slTo F N (isListKeep hD F.keep) hi (by rw [(nats_len hi)]; omega) ?_
  intro D1 ws1 h1 F1 N1 _ hws1
  refine LCg.CompSrc.ledger (by first | rfl | exact hh) F1 N1 (.head _) (by rw [List.size_toArray, nats_len hws1, List.length_take]; exact Nat.le_trans (Nat.min_le_left _ _) (by decide)) ?_
  intro g'
  refine comp_ind (news := [(D1, listOf ws1.toArray 0)]) ws1.length (fun i ys => Nats ys ((mods ns).take i)) (.inr ⟨_, .head _, rfl, 0, rfl⟩) ?_ ?_ _ 0 [] (by rw [List.size_toArray]; omega) Nats.nil
  · intro i ys v I oI C oC D2 m₂ h2 tk2 E' hil hys hv hoC hx F2 N2
    repeat' walk_at "ev"
    obtain ⟨n, tn, hn5, rfl⟩ := ints_at hws1 (by simpa using hv)
    refine ldVarK (hoC.ns (N2 _ (.tail _ (.head _))).1) hx ?_ rfl rfl (by decide)
    repeat' walk_at "ev"
    refine mod_int (by decide) ?_
    have hm : (mods ns)[i]? = some (n % 1000000).toNat := by simp only [mods, List.getElem?_map, hn5]; rfl
    refine ⟨_, _, rfl, F2, N2, ?_⟩
    rw [take_snoc hm]
    have e : n.fmod ((1000000 : Nat) : Int) = (((n % 1000000).toNat : Nat) : Int) := by rw [Int.fmod_eq_emod_of_nonneg _ (by decide)]; omega
    rw [e]
    exact hys.push
  · intro ys hys
    have hlen : (mods ns).length = ws1.length := by rw [nats_len hws1]; simp [mods]
    rw [List.take_of_length_le (by omega)] at hys
    unfold LCg.FinA
    intro D3 h3 tk3 F3 N3 _
    have hyl : ys.length ≤ 5 := by rw [hys.1]; simp [mods]; omega
    repeat' walk_at "ev"
    refine kba_turn (value' := .Name "drawn" ⟨0, 0, 0, 0⟩) (fun _ => rfl) ?_
    refine slFrom (by assumption) (by assumption) (News.isList (by assumption) (.head _)) (.cons _ _ (.cons _ _ (.cons _ _ (.cons _ _ (.cons _ _ .nil))))) (by simp) ?_
    intro D5 ws5 h5 F5 N5 _ hws5
    repeat' walk_at "ev"
    refine addL (c := mods ns) (d := [3, 17, 34, 17, 50].drop ys.length) F5 N5 (News.isList N5 (.tail _ (.tail _ (.head _)))) (News.isList N5 (.head _)) (ints_of_nats hys) ?_ (by rw [hlen, ← hys.1.trans hlen]; omega) (by simp; omega) ?_
    · rw [show zs ([3, 17, 34, 17, 50].drop ys.length) = (zs [3, 17, 34, 17, 50]).drop ys.length by simp [zs]]; exact hws5
    intro D6 us h6 F6 N6 _ hus
    have N6' : News h₀ L h6 [(D6, listOf us.toArray 0)] := fun p hp => N6 p (List.mem_append_left _ hp)
    clear N6
    have exs : mods ns ++ [3, 17, 34, 17, 50].drop ys.length = drawnL ns := by rw [hys.1]; rfl
    rw [exs] at hus
    have hx5 : (drawnL ns).length = 5 := drawnL_len ns
    have hx0 : (drawnL ns)[0]? = some ((drawnL ns).getD 0 0) := by simp [List.getD, hx5]
    repeat' walk_at "ev"
    refine itemNats (News.isList (by assumption) (.head _)) (nats_of_ints hus) hx0 (by omega) ?_
    intro t0
    repeat' walk_at "ev"
    dsimp only
    generalize hsz : (drawnL ns).getD 0 0 % 4 = sz at *
    have hsz4 : sz < 4 := by omega
    refine ⟨‹Fr h₀ L _ _›.keep, ?_⟩
    refine call_of_cn (lsh_spec (k := 0) (a := 1) (n := 4 * (sz + 1)) (by decide) (by omega) (by decide)) B (by assumption) (by assumption) T X (by assumption) lv rfl trivial ?_
    rintro _ h7 tk7 F7 N7 _ ⟨t7, rfl⟩
    repeat' walk_at "ev"
    refine ⟨F7.keep, ?_⟩
    refine call_of_cn (sub_spec (k := 0) (by decide) (Nat.le_trans (Nat.one_le_two_pow) (Nat.le_of_eq (Nat.one_mul _).symm))) B F7 N7 T X (by assumption) lv rfl trivial ?_
    rintro _ h8 tk8 F8 N8 _ ⟨t8, rfl⟩
    repeat' walk_at "ev"
    refine For_invV h₀ rfl rfl ?_ (by intro _; rfl) PassesOwn.never
    repeat' walk_at "ev"
    refine slRun (by assumption) (by assumption) (News.isList (by assumption) (.head _)) hus (by rw [nats_len hus, zs_len]; omega) (by show 1 ≤ sz + 1 + 1; omega) (by show sz + 1 + 1 ≤ us.length; rw [nats_len hus, zs_len]; omega) ?_
    intro D9 ws9 h9 F9 N9 lt9 hws9
    dsimp only
    have hws9' : Nats ws9 (((drawnL ns).drop 1).take (sz + 1)) := by
      refine nats_of_ints ?_
      rw [show zs (((drawnL ns).drop 1).take (sz + 1)) = ((zs (drawnL ns)).drop 1).take (sz + 1 + 1 - 1) by simp [zs]]
      exact hws9
    refine iterLst (news := [(D6, listOf us.toArray 0)]) (fun i m nx => nx = [(D6, listOf us.toArray 0)] ∧ (∃ t, m "top" = some (.int (hexv ((digs ns sz).take i) 0 : Nat) t)) ∧ (∃ t, m "whole" = some (.int ((1 * 2 ^ (4 * (sz + 1)) - 1 : Nat) : Int) t)) ∧ (∃ t, m "size" = some (.int ((sz + 1 : Nat) : Int) t)) ∧ m "drawn" = some (.ref D6))
      (by first | rfl | exact hh) (News.isList N9 (.head _)) (N9 _ (.head _)).2.1 ?_ F9 (fun p hp => N9 p (.tail _ hp)) ?_ ?_ ?_
    · exact fun p hp => Nat.ne_of_lt (lt9 p hp)
    · exact ⟨rfl, ⟨_, rfl⟩, ⟨_, rfl⟩, ⟨_, rfl⟩, rfl⟩
    · rintro i v m₁ nx h₁ tk₁ own hi hvi hadr hoff ⟨rfl, ⟨ta, e1⟩, ⟨tb, e2⟩, ⟨tc, e3⟩, e4⟩ F₁ N₁
      have hil : i < (((drawnL ns).drop 1).take (sz + 1)).length := by rw [← hws9'.1]; exact hi
      obtain ⟨ty, hty⟩ := hws9'.2 i _ (List.getElem?_eq_getElem hil)
      generalize hy : (((drawnL ns).drop 1).take (sz + 1))[i] = y at hty
      obtain rfl : v = .int (y : Int) ty := by rw [hty] at hvi; exact (Option.some.inj hvi).symm
      repeat' walk_at "ev"
      refine ⟨F₁.keep, ?_⟩
      refine call_of_cn (mul_spec (k := 0) (by decide) (by decide)) B (by assumption) (by assumption) T X (by assumption) lv rfl trivial ?_
      rintro _ ha tka Fa Na _ ⟨t1, rfl⟩
      repeat' walk_at "ev"
      refine ⟨Fa.keep, ?_⟩
      refine call_of_cn (mod_spec (k := 0) (by decide) (by decide)) B Fa Na T X (by assumption) lv rfl trivial ?_
      rintro _ hb tkb Fb Nb _ ⟨t2, rfl⟩
      repeat' walk_at "ev"
      refine ⟨Fb.keep, ?_⟩
      refine call_of_cn (add_spec (k := 0) (by decide)) B Fb Nb T X (by assumption) lv rfl trivial ?_
      rintro _ hc tkc Fc Nc _ ⟨t3, rfl⟩
      repeat' walk_at "ev"
      have Fz := ‹Fr h₀ L _ _›
      have Nz := ‹News h₀ L _ _›
      have hd : (digs ns sz)[i]? = some (y % 16) := by simp only [digs, List.getElem?_map, List.getElem?_eq_getElem hil, hy]; rfl
      have e : hexv ((digs ns sz).take i) 0 * 16 + y % 16 = hexv ((digs ns sz).take (i + 1)) 0 := by rw [take_snoc hd, hexv_snoc]; omega
      refine loopNext [(D6, listOf us.toArray 0)] Fz Nz ⟨rfl, ⟨t3, congrArg (fun n : Nat => some (Value.int (n : Int) _)) e⟩, ⟨_, e2⟩, ⟨_, e3⟩, e4⟩ hadr rfl
    · rintro m₁ nx h₁ tk₁ ⟨rfl, ⟨ta, e1⟩, ⟨tb, e2⟩, ⟨tc, e3⟩, e4⟩ F₁ N₁
      have hdl : (digs ns sz).length = ws9.length := by rw [hws9'.1]; simp [digs]
      rw [List.take_of_length_le (by omega)] at e1
      repeat' walk_at "ev"
      have hW : 15 ≤ 1 * 2 ^ (4 * (sz + 1)) - 1 ∧ 1 * 2 ^ (4 * (sz + 1)) - 1 ≤ 65535 := by
        have : ∀ sz, sz < 4 → 15 ≤ 1 * 2 ^ (4 * (sz + 1)) - 1 ∧ 1 * 2 ^ (4 * (sz + 1)) - 1 ≤ 65535 := by decide
        exact this sz hsz4
      generalize hWdef : 1 * 2 ^ (4 * (sz + 1)) - 1 = W at *
      refine ⟨F₁.keep, ?_⟩
      refine call_of_cn (mod_spec (k := 0) (by decide) (by omega)) B F₁ N₁ T X (by assumption) lv rfl trivial ?_
      rintro _ ha tka Fa Na _ ⟨tt, rfl⟩
      generalize htop : hexv (digs ns sz) 0 % W = top
      have htW : top < W := by rw [← htop]; exact Nat.mod_lt _ (by omega)
      repeat' walk_at "ev"
      refine ⟨‹Fr h₀ L _ _›.keep, ?_⟩
      refine call_of_cn (lsh_spec (k := 0) (a := 1) (n := 28) (by decide) (by decide) (by decide)) B (by assumption) (by assumption) T X (by assumption) lv rfl trivial ?_
      rintro _ hb tkb Fb Nb _ ⟨t1, rfl⟩
      repeat' walk_at "ev"
      refine ⟨Fb.keep, ?_⟩
      refine call_of_cn (lsh_spec (k := 0) (a := top) (n := 28) (by decide) (by decide) (by omega)) B Fb Nb T X (by assumption) lv rfl trivial ?_
      rintro _ hc tkc Fc Nc _ ⟨t2, rfl⟩
      repeat' walk_at "ev"
      refine ⟨Fc.keep, ?_⟩
      refine call_of_cn (div_spec (k := 0) (by decide) (by omega) (by omega)) B Fc Nc T X (by assumption) lv rfl trivial ?_
      rintro _ hd tkd Fd Nd _ ⟨t3, rfl⟩
      repeat' walk_at "ev"
      refine ⟨Fd.keep, ?_⟩
      refine call_of_cn (add_spec (k := 0) (by decide)) B Fd Nd T X (by assumption) lv rfl trivial ?_
      rintro _ he tke Fe Ne _ ⟨t4, rfl⟩
      repeat' walk_at "ev"
      refine ⟨Fe.keep, ?_⟩
      have earg : 1 * 2 ^ 28 + top * 2 ^ 28 / W = hexv (1 :: rowD top W 7) 0 := by
        have := hexv_row top W 1 htW 7
        rw [show (16 : Nat) ^ 7 = 2 ^ 28 by decide] at this
        exact this.symm
      rw [earg]
      refine call_of_cn (ap_spec (k := 0) (rest := rowD top W 7) (by decide) (rowD_lt top W htW 7) (by rw [rowD_len]; decide)) B Fe Ne T X (by assumption) lv rfl trivial ?_
      rintro _ hf tkf Ff Nf _ ⟨bw, t5, rfl, hbw⟩
      repeat' walk_at "ev"
      have hlr := ‹∀ p ∈ [(D6, listOf _ _)], p.1 < _›
      refine For_invV h₀ rfl rfl ?_ (by intro _; rfl) PassesOwn.never
      repeat' walk_at "ev"
      refine iterUp (a := 0) (b := 7) (fun i m nx => ∃ (Dr : Addr) (ws : List Value) (n : Nat), nx = [(Dr, listOf ws.toArray n), (D6, listOf us.toArray 0)] ∧ Dr ≠ D6 ∧ Nats ws (rowD top W i) ∧ (∃ t, m "left" = some (.int (remD top W i : Nat) t)) ∧ (∃ t, m "whole" = some (.int (W : Int) t)) ∧ (∃ t, m "top" = some (.int (top : Int) t)) ∧ m "row" = some (.ref Dr) ∧ m "drawn" = some (.ref D6) ∧ m "word" = some (.bytes bw t5))
        (by first | rfl | exact hh) (by assumption) (by decide) (by decide) (by assumption) (by assumption) ?_ ?_ ?_
      · exact ⟨_, [], _, rfl, Nat.ne_of_gt (hlr _ (.head _)), Nats.nil, ⟨_, rfl⟩, ⟨_, e2⟩, ⟨_, rfl⟩, rfl, e4, rfl⟩
      · rintro i ti m₂ nx h₂ tk₂ own2 _ hi7 hadr2 hoff2 ⟨Dr, ws, n, rfl, hDr, hws, ⟨tl, f1⟩, ⟨tw, f2⟩, ⟨tp, f3⟩, f4, f5, f6⟩ F₂ N₂
        rw [← hadr2] at hoff2
        have hwl : ws.length = i := by rw [hws.1, rowD_len]
        have hrl := remD_lt top W htW i
        repeat' walk_at "ev"
        refine appK (by assumption) (by assumption) ?_ ?_ (by omega)
        · intro p hp
          rcases List.mem_append.mp hp with hp | hp
          · obtain rfl := List.mem_singleton.mp hp
            exact hDr.symm
          · exact hoff2 p hp Dr (.head _)
        intro h4 F4 N4
        repeat' walk_at "ev"
        have Fz := ‹Fr h₀ L _ _›
        have Nz := ‹News h₀ L _ _›
        exact loopNext [(Dr, _), (D6, _)] Fz Nz ⟨Dr, _, _, rfl, hDr, hws.push, ⟨_, rfl⟩, ⟨_, f2⟩, ⟨_, f3⟩, f4, f5, f6⟩ hadr2 rfl
      · rintro m₂ nx h₂ tk₂ ⟨Dr, ws, n, rfl, hDr, hws, ⟨tl, f1⟩, ⟨tw, f2⟩, ⟨tp, f3⟩, f4, f5, f6⟩ F₂ N₂
        obtain ⟨N1, hN1, hp1, hp2, hlaw⟩ := plain sz hsz4 W top hWdef.symm htW
        exact law_tail B F₂ N₂ T X lv hh hDr hws hus hx5 (rowD_len top W 7) (rowD_lt top W htW 7) hbw f2 f3 f4 f5 f6 (by omega) (by omega) (by omega) hN1 hp1 hp2 hlaw
end
end
/-! part H1 -/
/-- a tree without calls, run on a state: the value, the position, the state, the number of steps -/
noncomputable def run {α : Type} (st : Setting) : Sem α → Pos → Shared → Option (α × Pos × Shared × Nat)
  | .pure a, p, s => some (a, p, s, 0)
  | .rule _ k, p, s => (run st (k ()) p s).map fun r => (r.1, r.2.1, r.2.2.1, r.2.2.2 + 1)
  | .at q k, _, s => (run st (k ()) q s).map fun r => (r.1, r.2.1, r.2.2.1, r.2.2.2 + 1)
  | .point _ k, p, s => (run st (k ()) p s).map fun r => (r.1, r.2.1, r.2.2.1, r.2.2.2 + 1)
  | .ask k, p, s => (run st (k st) p s).map fun r => (r.1, r.2.1, r.2.2.1, r.2.2.2 + 1)
  | .fresh k, p, s => (run st (k s.toks) p { s with toks := s.toks + 1 }).map fun r => (r.1, r.2.1, r.2.2.1, r.2.2.2 + 1)
  | .load a _ k, p, s => match s.heap.get? a with
    | some o => (run st (k o) p s).map fun r => (r.1, r.2.1, r.2.2.1, r.2.2.2 + 1)
    | none => none
  | .loadIfAlive a k, p, s => (run st (k (s.heap.get? a)) p s).map fun r => (r.1, r.2.1, r.2.2.1, r.2.2.2 + 1)
  | .update a _ f k, p, s => match (Nat.ble 11 a || a == mainNs) && (s.heap.get? a).isSome with
    | true => (run st (k ()) p { s with heap := s.heap.update a f }).map fun r => (r.1, r.2.1, r.2.2.1, r.2.2.2 + 1)
    | false => none
  | .alloc o k, p, s => (run st (k s.heap.objs.size) p { s with heap := s.heap.push o }).map fun r => (r.1, r.2.1, r.2.2.1, r.2.2.2 + 1)
  | _, _, _ => none

section
variable {α β : Type} {st : Setting}
theorem run_bind (m : Sem α) (f : α → Sem β) : ∀ (p : Pos) (s : Shared), run st (m.bind f) p s = (run st m p s).bind fun r => (run st (f r.1) r.2.1 r.2.2.1).map fun r' => (r'.1, r'.2.1, r'.2.2.1, r.2.2.2 + r'.2.2.2) := by
  induction m with
  | pure a => intro p s; simp [Sem.bind, run, Option.map]; cases run st (f a) p s <;> rfl
  | rule t k ih => intro p s; simp only [Sem.bind, run, ih]; cases run st (k ()) p s <;> simp [Option.map_map]; (try (cases run st (f _) _ _ <;> simp; omega))
  | «at» q k ih => intro p s; simp only [Sem.bind, run, ih]; cases run st (k ()) q s <;> simp [Option.map_map]; (try (cases run st (f _) _ _ <;> simp; omega))
  | point l k ih => intro p s; simp only [Sem.bind, run, ih]; cases run st (k ()) p s <;> simp [Option.map_map]; (try (cases run st (f _) _ _ <;> simp; omega))
  | ask k ih => intro p s; simp only [Sem.bind, run, ih]; cases run st (k st) p s <;> simp [Option.map_map]; (try (cases run st (f _) _ _ <;> simp; omega))
  | fresh k ih => intro p s; simp only [Sem.bind, run, ih]; cases run st (k s.toks) p { s with toks := s.toks + 1 } <;> simp [Option.map_map]; (try (cases run st (f _) _ _ <;> simp; omega))
  | load a q k ih =>
    intro p s; simp only [Sem.bind, run]
    cases s.heap.get? a with
    | none => rfl
    | some o => simp only [ih]; cases run st (k o) p s <;> simp [Option.map_map]; (try (cases run st (f _) _ _ <;> simp; omega))
  | loadIfAlive a k ih => intro p s; simp only [Sem.bind, run, ih]; cases run st (k (s.heap.get? a)) p s <;> simp [Option.map_map]; (try (cases run st (f _) _ _ <;> simp; omega))
  | update a q g k ih =>
    intro p s; simp only [Sem.bind, run]
    cases (Nat.ble 11 a || a == mainNs) && (s.heap.get? a).isSome with
    | false => rfl
    | true => simp only [ih]; cases run st (k ()) p { s with heap := s.heap.update a g } <;> simp [Option.map_map]; (try (cases run st (f _) _ _ <;> simp; omega))
  | alloc o k ih => intro p s; simp only [Sem.bind, run, ih]; cases run st (k s.heap.objs.size) p { s with heap := s.heap.push o } <;> simp [Option.map_map]; (try (cases run st (f _) _ _ <;> simp; omega))
  | _ => intro p s; rfl
theorem run_keep (vs : List Value) (m : Sem α) : ∀ (p : Pos) (s : Shared), run st (m.keep vs) p s = run st m p s := by
  induction m with
  | pure a => intro p s; rfl
  | rule t k ih => intro p s; simp only [Sem.keep, run, ih]
  | «at» q k ih => intro p s; simp only [Sem.keep, run, ih]
  | point l k ih => intro p s; simp only [Sem.keep, run, ih]
  | ask k ih => intro p s; simp only [Sem.keep, run, ih]
  | fresh k ih => intro p s; simp only [Sem.keep, run, ih]
  | load a q k ih => intro p s; simp only [Sem.keep, run, ih]
  | loadIfAlive a k ih => intro p s; simp only [Sem.keep, run, ih]
  | update a q g k ih => intro p s; simp only [Sem.keep, run, ih]
  | alloc o k ih => intro p s; simp only [Sem.keep, run, ih]
  | _ => intro p s; rfl
theorem run_holding (vs : List Value) (m : Sem α) (p : Pos) (s : Shared) : run st (holding vs m) p s = run st m p s := by
  unfold holding
  split
  · rfl
  · exact run_keep _ m p s
theorem run_onRaise (h : Value → Sem Unit) (m : Sem α) : ∀ (p : Pos) (s : Shared) r, run st m p s = some r → run st (m.onRaise h) p s = some r := by
  induction m with
  | pure a => intro p s r e; exact e
  | rule t k ih | «at» q k ih | point l k ih | ask k ih | fresh k ih | loadIfAlive a k ih | alloc o k ih =>
    intro p s r e; simp only [Sem.onRaise, run] at e ⊢
    obtain ⟨r', e1, e2⟩ := Option.map_eq_some_iff.mp e
    rw [ih _ _ _ _ e1]; exact congrArg some e2
  | load a q k ih =>
    intro p s r e; simp only [Sem.onRaise, run] at e ⊢
    split at e
    · obtain ⟨r', e1, e2⟩ := Option.map_eq_some_iff.mp e
      rw [ih _ _ _ _ e1]; exact congrArg some e2
    · cases e
  | update a q g k ih =>
    intro p s r e; simp only [Sem.onRaise, run] at e ⊢
    split at e
    · obtain ⟨r', e1, e2⟩ := Option.map_eq_some_iff.mp e
      rw [ih _ _ _ _ e1]; exact congrArg some e2
    · cases e
  | _ => intro p s r e; cases e
end

theorem run_top {α : Type} {prog : Program} {w : World} {ann : Option Value} {K : α → Sem Fin} {H : Value → Sem Fin} {gd : Bool → Bool} {lv : List Value → List Value} {c : Code} {F : Frame} {B : List Frame} (m : Sem α) :
    ∀ (p : Pos) (s : Shared) (a : α) (p' : Pos) (s' : Shared) (n : Nat), run ⟨prog, w.params⟩ m p s = some (a, p', s', n) → ∀ N r, topRun treeTable prog w 11 ann N s' ⟨K a, c, p', F :: B⟩ = some r →
      topRun treeTable prog w 11 ann (n + N) s ⟨m.wrap K H gd lv, c, p, F :: B⟩ = some r := by
  have go : ∀ (cur cur' : Sem Fin) (p p' : Pos) (s s' : Shared) (n N : Nat) r, through ⟨cur, c, p, F :: B⟩ = false → stepOk 11 ann ⟨cur, c, p, F :: B⟩ = true → step (denote treeTable) prog w s ⟨cur, c, p, F :: B⟩ = .go s' ⟨cur', c, p', F :: B⟩ →
      topRun treeTable prog w 11 ann (n + N) s' ⟨cur', c, p', F :: B⟩ = some r → topRun treeTable prog w 11 ann (n + 1 + N) s ⟨cur, c, p, F :: B⟩ = some r := by
    intro cur cur' p p' s s' n N r h1 h2 h3 h4
    rw [show n + 1 + N = n + N + 1 by omega]
    unfold topRun
    rw [h1, h2, h3]
    exact h4
  induction m with
  | pure a =>
    intro p s a' p' s' n e N r k
    cases e
    rw [Nat.zero_add]; exact k
  | rule t k ih | «at» q k ih | point l k ih | ask k ih | fresh k ih | loadIfAlive a k ih | alloc o k ih =>
    intro p s a' p' s' n e N r hk
    simp only [run] at e
    obtain ⟨⟨a1, p1, s1, n1⟩, e1, e2⟩ := Option.map_eq_some_iff.mp e
    cases e2
    exact go _ _ _ _ _ _ _ _ _ rfl rfl rfl (ih _ _ _ _ _ _ _ e1 N r hk)
  | load a q k ih =>
    intro p s a' p' s' n e N r hk
    simp only [run] at e
    split at e
    · rename_i o ho
      obtain ⟨⟨a1, p1, s1, n1⟩, e1, e2⟩ := Option.map_eq_some_iff.mp e
      cases e2
      refine go _ _ _ _ _ _ _ _ _ rfl rfl ?_ (ih _ _ _ _ _ _ _ e1 N r hk)
      obtain ⟨hp, g, d, tk, os⟩ := s
      have ho' : hp.get? a = some o := ho
      simp only [Sem.wrap, step, ho']
    · cases e
  | update a q g k ih =>
    intro p s a' p' s' n e N r hk
    simp only [run] at e
    split at e
    · rename_i hc
      obtain ⟨⟨a1, p1, s1, n1⟩, e1, e2⟩ := Option.map_eq_some_iff.mp e
      cases e2
      obtain ⟨h1, h2⟩ := Bool.and_eq_true_iff.mp hc
      refine go _ _ _ _ _ _ _ _ _ rfl ?_ ?_ (ih _ _ _ _ _ _ _ e1 N r hk)
      · have : stepOk 11 ann ⟨(Sem.update a q g k).wrap K H gd lv, c, p, F :: B⟩ = (Nat.ble 11 a || a == mainNs || a == cStatics || ann == some (.ref a)) := rfl
        rw [this, h1]; rfl
      · obtain ⟨hp, gn, d, tk, os⟩ := s
        have h2' : (hp.get? a).isSome = true := h2
        simp only [Sem.wrap, step, h2', if_true]
    · cases e
  | _ => intro p s a' p' s' n e; cases e
/-! part H2 -/
theorem hash_top (w : World) (prog : Program) (ann : Option Value) (K : Int → Sem Fin) (H : Value → Sem Fin) (gd : Bool → Bool) (lv : List Value → List Value) (c : Code) (F : Frame) (B : List Frame) (k : Int) (t : Tok) (p : Pos) (h : Heap) (g : Array GenState) (dr : Drawn) (tk : Nat) (o : OsState) (N : Nat) :
    topRun treeTable prog (w.withFollow "special-get-raises" true) 11 ann (N + 5) ⟨h, g, dr, tk, o⟩ ⟨(pyHash (.int k t)).wrap K H gd lv, c, p, F :: B⟩ = topRun treeTable prog (w.withFollow "special-get-raises" true) 11 ann N ⟨h, g, dr, tk + 1, o⟩ ⟨(pyHashByItsType.reduced (rawHash k)).wrap K H gd lv, c, p, F :: B⟩ := by
  kernel_rfl
theorem hash_topF (w : World) (prog : Program) (ann : Option Value) (K : Int → Sem Fin) (H : Value → Sem Fin) (gd : Bool → Bool) (lv : List Value → List Value) (c : Code) (F : Frame) (B : List Frame) (k : Int) (t : Tok) (p : Pos) (h : Heap) (g : Array GenState) (dr : Drawn) (tk : Nat) (o : OsState) (N : Nat) :
    topRun treeTable prog (w.withFollow "special-get-raises" false) 11 ann (N + 5) ⟨h, g, dr, tk, o⟩ ⟨(pyHash (.int k t)).wrap K H gd lv, c, p, F :: B⟩ = topRun treeTable prog (w.withFollow "special-get-raises" false) 11 ann N ⟨h, g, dr, tk + 1, o⟩ ⟨(pyHashByItsType.reduced (rawHash k)).wrap K H gd lv, c, p, F :: B⟩ := by
  kernel_rfl
theorem reduced_is (k : Int) : pyHashByItsType.reduced (rawHash k) = pure (hashInt k) := by
  have h := rawHash_range k
  unfold pyHashByItsType.reduced
  rw [if_pos (by simp only [Bool.and_eq_true, decide_eq_true_eq]; exact h)]
  rfl
/-- the tree m, wherever it stands in the top's thread, goes from s to s' in n steps and gives a -/
noncomputable def Go {α : Type} (prog : Program) (w : World) (m : Sem α) (p : Pos) (s : Shared) (a : α) (p' : Pos) (s' : Shared) (n : Nat) : Prop :=
  ∀ (ann : Option Value) (K : α → Sem Fin) (H : Value → Sem Fin) (gd : Bool → Bool) (lv : List Value → List Value) (c : Code) (F : Frame) (B : List Frame) (N : Nat) (r : Shared),
    topRun treeTable prog w 11 ann N s' ⟨K a, c, p', F :: B⟩ = some r → topRun treeTable prog w 11 ann (n + N) s ⟨m.wrap K H gd lv, c, p, F :: B⟩ = some r
section
variable {α β : Type} {prog : Program} {w : World} {p p' p'' : Pos} {s s' s'' : Shared} {n n' : Nat}
theorem Go.of_run {m : Sem α} {a : α} (h : run ⟨prog, w.params⟩ m p s = some (a, p', s', n)) : Go prog w m p s a p' s' n :=
  fun _ _ _ _ _ _ _ _ N r k => run_top m p s a p' s' n h N r k
theorem Go.pure {a : α} : Go prog w (Sem.pure a) p s a p s 0 := fun _ _ _ _ _ _ _ _ N r k => by rw [Nat.zero_add]; exact k
theorem Go.bind {m : Sem α} {f : α → Sem β} {a : α} {b : β} (h : Go prog w m p s a p' s' n) (h' : Go prog w (f a) p' s' b p'' s'' n') : Go prog w (m >>= f) p s b p'' s'' (n + n') := by
  intro ann K H gd lv c F B N r k
  have e : (m >>= f).wrap K H gd lv = m.wrap (fun a => (f a).wrap K H gd lv) H gd lv := by
    show (m.bind f).wrap K H gd lv = _
    rw [Sem.bind_eq_wrap, Sem.wrap_wrap]
    rfl
  rw [e, Nat.add_assoc]
  exact h ann _ H gd lv c F B _ r (h' ann K H gd lv c F B N r k)
theorem Go.onRaise {m : Sem α} {x : Value → Sem Unit} {a : α} (h : Go prog w m p s a p' s' n) : Go prog w (m.onRaise x) p s a p' s' n := by
  intro ann K H gd lv c F B N r k
  rw [Sem.onRaise_eq_wrap, Sem.wrap_wrap]
  exact h ann _ _ _ _ c F B N r k
theorem keep_wrap (vs : List Value) (m : Sem α) (K : α → Sem Fin) (H : Value → Sem Fin) (gd : Bool → Bool) (lv : List Value → List Value) : (m.keep vs).wrap K H gd lv = m.wrap K H gd (fun l => lv (vs ++ l)) := by
  induction m with
  | pure | raise | unsupported | finish => rfl
  | rule _ k ih | «at» _ k ih | load _ _ k ih | update _ _ _ k ih | alloc _ k ih | register _ k ih | loadIfAlive _ k ih | point _ k ih | fresh k ih | ask k ih | choose _ _ k ih | os _ _ k ih | call _ _ _ _ k ih | handled _ k ih | genState _ k ih | newGen _ k ih | resume _ _ _ k ih | «yield» _ _ _ k ih | stack k ih | fork _ k ih | thread k ih | await _ _ _ _ k ih =>
    simp only [Sem.keep, Sem.wrap, ih]
theorem Go.holding {vs : List Value} {m : Sem α} {a : α} (h : Go prog w m p s a p' s' n) : Go prog w (holding vs m) p s a p' s' n := by
  unfold PySem.holding
  split
  · exact h
  · intro ann K H gd lv c F B N r k
    rw [keep_wrap]
    exact h ann K H gd _ c F B N r k
theorem Go.eq {m m' : Sem α} {a : α} (e : m = m') (h : Go prog w m' p s a p' s' n) : Go prog w m p s a p' s' n := e ▸ h
end
theorem go_hash {prog : Program} {w : World} {k : Int} {t : Tok} {p : Pos} {h : Heap} {g : Array GenState} {dr : Drawn} {tk : Nat} {o : OsState} :
    Go prog w (pyHash (.int k t)) p ⟨h, g, dr, tk, o⟩ (hashInt k) p ⟨h, g, dr, tk + 1, o⟩ 5 := by
  intro ann K H gd lv c F B N r hk
  rw [Nat.add_comm]
  have e := World.withFollow_self w "special-get-raises"
  cases hb : w.params.followText "special-get-raises" <;> rw [hb] at e <;> rw [← e] at hk ⊢
  · rw [hash_topF, reduced_is]; exact hk
  · rw [hash_top, reduced_is]; exact hk
/-! part H3 -/
theorem Go.n {α : Type} {prog : Program} {w : World} {m : Sem α} {p p' : Pos} {s s' : Shared} {a : α} {n n' : Nat} (h : Go prog w m p s a p' s' n) (e : n = n') : Go prog w m p s a p' s' n' := e ▸ h
noncomputable def dictO (es : List DictEntry) : Obj := { cls := .type "dict", data := .dict es.toArray es.length }
/-- the state in which the dict stands at pre.length -/
noncomputable def StD (pre : List Obj) (es : List DictEntry) (post : List Obj) (life : Life) (g : Array GenState) (dr : Drawn) (tk : Nat) (o : OsState) : Shared := ⟨⟨(pre ++ dictO es :: post).toArray, life⟩, g, dr, tk, o⟩
section
variable {pre post : List Obj} {es : List DictEntry} {life : Life} {g : Array GenState} {dr : Drawn} {tk : Nat} {o : OsState} {x : Obj} {st : Setting} {p : Pos}
theorem getAt (hx : x.isFreed = false) : (⟨(pre ++ x :: post).toArray, life⟩ : Heap).get? pre.length = some x := by
  unfold Heap.get?
  have : (pre ++ x :: post).toArray[pre.length]? = some x := by simp
  simp only [this]
  obtain ⟨c, d, dt, sl⟩ := x
  cases dt <;> first | rfl | cases hx
theorem modify_at (f : Obj → Obj) : ∀ (pre : List Obj), (pre ++ x :: post).modify pre.length f = pre ++ f x :: post
  | [] => rfl
  | a :: r => congrArg (a :: ·) (modify_at f r)
theorem updAt (f : Obj → Obj) : (⟨(pre ++ x :: post).toArray, life⟩ : Heap).update pre.length f = ⟨(pre ++ f x :: post).toArray, life⟩ := by
  show (⟨((pre ++ x :: post).toArray).modify pre.length f, life⟩ : Heap) = _
  have e : ((pre ++ x :: post).toArray).modify pre.length f = (pre ++ f x :: post).toArray := by
    apply Array.ext'
    rw [Array.toList_modify]
    exact modify_at f pre
  rw [e]
theorem pushAt (y : Obj) (l : List Obj) : (⟨l.toArray, life⟩ : Heap).push y = ⟨(l ++ [y]).toArray, life⟩ := by
  show (⟨l.toArray.push y, life⟩ : Heap) = _
  congr 1
  apply Array.ext'; simp
theorem dget : (StD pre es post life g dr tk o).heap.get? pre.length = some (dictO es) := getAt rfl
theorem dupd (h11 : 11 ≤ pre.length) (e : DictEntry) : run st (.update pre.length none (Obj.mapDictKeys (·.push e)) .pure : Sem Unit) p (StD pre es post life g dr tk o) = some ((), p, StD pre (es ++ [e]) post life g dr tk o, 1) := by
  have h1 : ((Nat.ble 11 pre.length || pre.length == mainNs) && ((StD pre es post life g dr tk o).heap.get? pre.length).isSome) = true := by
    rw [dget, Nat.ble_eq_true_of_le h11]; rfl
  simp only [run, h1]
  have e1 : ({ StD pre es post life g dr tk o with heap := (StD pre es post life g dr tk o).heap.update pre.length (Obj.mapDictKeys (·.push e)) } : Shared) = StD pre (es ++ [e]) post life g dr tk o := by
    show (⟨(⟨(pre ++ dictO es :: post).toArray, life⟩ : Heap).update pre.length (Obj.mapDictKeys (·.push e)), g, dr, tk, o⟩ : Shared) = _
    rw [updAt]
    have e2 : Obj.mapDictKeys (·.push e) (dictO es) = dictO (es ++ [e]) := by
      show Obj.mk _ _ (Data.dict (es.toArray.push e) (es.length + 1)) _ = Obj.mk _ _ (Data.dict (es ++ [e]).toArray (es ++ [e]).length) _
      congr 2
      · apply Array.ext'; simp
      · simp
    rw [e2]; rfl
  rw [e1]; rfl
theorem run_load {α : Type} {part : Option Value} {k : Obj → Sem α} : run st (.load pre.length part k) p (StD pre es post life g dr tk o) = (run st (k (dictO es)) p (StD pre es post life g dr tk o)).map fun r => (r.1, r.2.1, r.2.2.1, r.2.2.2 + 1) := by
  simp only [run, dget]
theorem run_upd {α : Type} {part : Option Value} {e : DictEntry} {k : Unit → Sem α} (h11 : 11 ≤ pre.length) :
    run st (.update pre.length part (Obj.mapDictKeys (·.push e)) k) p (StD pre es post life g dr tk o) = (run st (k ()) p (StD pre (es ++ [e]) post life g dr tk o)).map fun r => (r.1, r.2.1, r.2.2.1, r.2.2.2 + 1) := by
  have h1 : ((Nat.ble 11 pre.length || pre.length == mainNs) && ((StD pre es post life g dr tk o).heap.get? pre.length).isSome) = true := by
    rw [dget, Nat.ble_eq_true_of_le h11]; rfl
  simp only [run, h1]
  have e1 : ({ StD pre es post life g dr tk o with heap := (StD pre es post life g dr tk o).heap.update pre.length (Obj.mapDictKeys (·.push e)) } : Shared) = StD pre (es ++ [e]) post life g dr tk o := by
    show (⟨(⟨(pre ++ dictO es :: post).toArray, life⟩ : Heap).update pre.length (Obj.mapDictKeys (·.push e)), g, dr, tk, o⟩ : Shared) = _
    rw [updAt]
    have e2 : Obj.mapDictKeys (·.push e) (dictO es) = dictO (es ++ [e]) := by
      show Obj.mk _ _ (Data.dict (es.toArray.push e) (es.length + 1)) _ = Obj.mk _ _ (Data.dict (es ++ [e]).toArray (es ++ [e]).length) _
      congr 2
      · apply Array.ext'; simp
      · simp
    rw [e2]; rfl
  rw [e1]
theorem run_updK {part : Option Value} {e : DictEntry} (h11 : 11 ≤ pre.length) (hsz : es.length ≤ 1000) :
    run st (updateDictKeys pre.length (·.push e) part) p (StD pre es post life g dr tk o) = some ((), p, StD pre (es ++ [e]) post life g dr tk o, 3) := by
  show run st (.load pre.length part fun o => _) p _ = _
  rw [run_load]
  show (run st (.update pre.length part _ fun _ => _) p _).map _ = _
  rw [run_upd h11]
  show ((run st (.load pre.length part fun o => _) p _).map _).map _ = _
  rw [run_load]
  have hp : (dictO (es ++ [e])).data.pastItsLine = none := by
    show (if (es ++ [e]).toArray.size > sizeLine + 1 then some "dict:memory" else none) = none
    rw [if_neg]
    have : (es ++ [e]).toArray.size = es.length + 1 := by simp
    rw [this]
    have h2 : 1000 ≤ sizeLine := by decide
    omega
  show (((run st ((Sem.pure (dictO (es ++ [e]))).bind _) p _).map _).map _).map _ = _
  simp only [Sem.bind, hp]
  rfl
theorem places_none {i : Int} (hf : ∀ e ∈ es, e.hash ≠ i) : placesWithHash es.toArray.size (fun j => es.toArray[j]?.map (·.hash)) i = [] := by
  unfold placesWithHash
  rw [List.filter_eq_nil_iff]
  intro j hj
  simp only [List.mem_range, List.size_toArray] at hj
  have : es.toArray[j]? = some es[j] := by simp [hj]
  simp only [this, Option.map_some]
  simpa using hf _ (List.getElem_mem hj)
theorem run_find {i k : Int} {t : Tok} (hf : ∀ e ∈ es, e.hash ≠ i) : run st (dictFind pre.length (.int k t) i) p (StD pre es post life g dr tk o) = some (none, p, StD pre es post life g dr tk o, 1) := by
  unfold dictFind
  rw [run_holding]
  show run st ((dictEntries pre.length (keyPart (.int k t))).bind _) p _ = _
  have e1 : run st (dictEntries pre.length (keyPart (.int k t))) p (StD pre es post life g dr tk o) = some (es.toArray, p, StD pre es post life g dr tk o, 1) := by
    unfold dictEntries loadPart
    show run st ((Sem.load _ _ .pure).bind _) p _ = _
    simp only [Sem.bind, run, dget]
    rfl
  rw [run_bind, e1]
  simp only [Option.bind_some]
  rw [places_none hf]
  rfl
theorem run_setH {i k : Int} {t : Tok} {v : Value} (hf : ∀ e ∈ es, e.hash ≠ i) (h11 : 11 ≤ pre.length) (hsz : es.length ≤ 1000) :
    run st (dictSetHashed pre.length (.int k t) i v) p (StD pre es post life g dr tk o) = some ((), p, StD pre (es ++ [⟨i, .int k t, v⟩]) post life g dr tk o, 5) := by
  unfold dictSetHashed
  rw [run_holding]
  show run st ((dictFind pre.length (.int k t) i).bind _) p _ = _
  rw [run_bind, run_find hf]
  show (run st (.rule _ fun _ => (updateDictKeys pre.length (·.push ⟨i, .int k t, v⟩) (keyPart (.int k t)))) p _).map _ = _
  simp only [run]
  rw [run_updK h11 hsz]
  rfl
theorem run_put {i k : Int} {t : Tok} {v : Value} (hf : ∀ e ∈ es, e.hash ≠ i) (h11 : 11 ≤ pre.length) (hsz : es.length ≤ 1000) :
    run st (dictPut pre.length i (.int k t) v) p (StD pre es post life g dr tk o) = some ((), p, StD pre (es ++ [⟨i, .int k t, v⟩]) post life g dr tk o, 4) := by
  unfold dictPut
  show run st ((dictFind pre.length (.int k t) i).bind _) p _ = _
  rw [run_bind, run_find hf]
  show (run st (updateDictKeys pre.length (·.push ⟨i, .int k t, v⟩)) p _).map _ = _
  rw [run_updK h11 hsz]
  rfl
/-- one pair of the display, stored -/
theorem go_pair {prog : Program} {w : World} {k : Int} {t : Tok} {v : Value} (hf : ∀ e ∈ es, e.hash ≠ hashInt k) (h11 : 11 ≤ pre.length) (hsz : es.length ≤ 1000) :
    Go prog w (dictSet pre.length (.int k t) v) p (StD pre es post life g dr tk o) () p (StD pre (es ++ [⟨hashInt k, .int k t, v⟩]) post life g dr (tk + 1) o) 10 :=
  Go.holding (Go.n (Go.bind go_hash (Go.of_run (run_setH (tk := tk + 1) hf h11 hsz))) rfl)
end
/-! part H4 -/
structure PD where
  k : Int
  kp : Pos
  s : Str
  sp : Pos
noncomputable def PD.key (env : Env) (c : PD) : Sem Value := eval (.Constant (.int c.k) 0 c.kp) env
noncomputable def PD.val (env : Env) (pos : Pos) (c : PD) : Sem Value := do let x ← eval (.Constant (.str c.s) 0 c.sp) env; standAt pos; pure x
/-- the entries that a long display's pairs leave -/
noncomputable def ents : Nat → List PD → List DictEntry
  | _, [] => []
  | tk, c :: r => ⟨hashInt c.k, .int c.k tk, .str c.s (tk + 1)⟩ :: ents (tk + 3) r
theorem ents_append (a b : List PD) : ∀ tk, ents tk (a ++ b) = ents tk a ++ ents (tk + 3 * a.length) b := by
  induction a with
  | nil => intro tk; rfl
  | cons c r ih => intro tk; simp only [List.cons_append, ents, ih, List.length_cons]; rw [show tk + 3 + 3 * r.length = tk + 3 * (r.length + 1) by omega]
theorem ents_length (a : List PD) : ∀ tk, (ents tk a).length = a.length := by
  induction a with
  | nil => intro tk; rfl
  | cons c r ih => intro tk; simp only [ents, List.length_cons, ih]
theorem ents_hash (a : List PD) : ∀ tk, (ents tk a).map (·.hash) = a.map fun c => hashInt c.k := by
  induction a with
  | nil => intro tk; rfl
  | cons c r ih => intro tk; simp only [ents, List.map_cons, ih]
theorem ents_key (a : List PD) : ∀ tk, ∀ e ∈ ents tk a, ∃ k t, e.key = .int k t := by
  induction a with
  | nil => intro tk e he; cases he
  | cons c r ih =>
    intro tk e he
    rcases List.mem_cons.mp he with rfl | he
    · exact ⟨_, _, rfl⟩
    · exact ih _ e he
section
variable {prog : Program} {w : World} {pre post : List Obj} {es : List DictEntry} {life : Life} {g : Array GenState} {dr : Drawn} {tk : Nat} {o : OsState} {p : Pos} {env : Env} {pos : Pos} {h : Heap}
theorem go_key (c : PD) : Go prog w (c.key env) p ⟨h, g, dr, tk, o⟩ (.int c.k tk) p ⟨h, g, dr, tk + 1, o⟩ 1 := Go.of_run rfl
theorem go_val (c : PD) : Go prog w (c.val env pos) p ⟨h, g, dr, tk, o⟩ (.str c.s tk) pos ⟨h, g, dr, tk + 1, o⟩ 2 := Go.of_run rfl
theorem Go.loop {α : Type} {f : α → PUnit → Sem (ForInStep PUnit)} (S : Nat → Shared) (c : Nat) (pos : Pos) : ∀ (l : List α) (i : Nat) (p : Pos), l ≠ [] → (∀ j (hj : j < l.length) (q : Pos), q = p ∨ q = pos → Go prog w (f l[j] PUnit.unit) q (S (i + j)) (.yield PUnit.unit) pos (S (i + j + 1)) c) →
    Go prog w (forIn l PUnit.unit f) p (S i) PUnit.unit pos (S (i + l.length)) (c * l.length) := by
  intro l
  induction l with
  | nil => intro i p h0 _; exact absurd rfl h0
  | cons x r ih =>
    intro i p _ hs
    rw [List.forIn_cons]
    have h1 : Go prog w (f x PUnit.unit) p (S i) (.yield PUnit.unit) pos (S (i + 1)) c := hs 0 (by simp) p (.inl rfl)
    cases r with
    | nil => exact Go.n (Go.bind h1 Go.pure) (by simp)
    | cons y r2 =>
      have := ih (i + 1) pos (by simp) fun j hj q hq => by
        have := hs (j + 1) (by simp at hj ⊢; omega) q (by rcases hq with h | h <;> exact .inr h)
        rw [show i + 1 + j = i + (j + 1) by omega]
        exact this
      rw [show i + (x :: y :: r2).length = i + 1 + (y :: r2).length by simp only [List.length_cons]; omega]
      refine Go.n (Go.bind h1 this) ?_
      simp only [List.length_cons, Nat.mul_add]; omega
theorem ents_snoc (cs : List PD) (tk : Nat) (j : Nat) (hj : j < cs.length) : ents tk (cs.take (j + 1)) = ents tk (cs.take j) ++ [⟨hashInt cs[j].k, .int cs[j].k (tk + 3 * j), .str cs[j].s (tk + 3 * j + 1)⟩] := by
  rw [List.take_succ_eq_append_getElem hj, ents_append]
  have : (cs.take j).length = j := by simp; omega
  rw [this]; rfl
end
/-! part H5 -/
section
variable {prog : Program} {w : World} {pre post : List Obj} {es : List DictEntry} {life : Life} {g : Array GenState} {dr : Drawn} {tk : Nat} {o : OsState} {p : Pos} {env : Env} {pos : Pos} {l : List Obj}
noncomputable def Sl (l : List Obj) (life : Life) (g : Array GenState) (dr : Drawn) (tk : Nat) (o : OsState) : Shared := ⟨⟨l.toArray, life⟩, g, dr, tk, o⟩
theorem sl_std : Sl (pre ++ dictO es :: post) life g dr tk o = StD pre es post life g dr tk o := rfl
theorem go_allocD : Go prog w (alloc { cls := .type "dict", data := .dict #[] }) p (Sl l life g dr tk o) l.length p (StD l [] [] life g dr tk o) 1 := by
  refine Go.of_run ?_
  show some (l.toArray.size, p, (⟨(⟨l.toArray, life⟩ : Heap).push _, g, dr, tk, o⟩ : Shared), 1) = _
  rw [pushAt, List.size_toArray]
  rfl
theorem go_sub (cs : List PD) (hlen : 15 < cs.length) (hl2 : cs.length ≤ 100) (h11 : 11 ≤ l.length) (hnd : (cs.map fun c => hashInt c.k).Nodup) :
    Go prog w (subDict (cs.map fun c => (c.key env, c.val env pos))) p (Sl l life g dr tk o) l.length pos (StD l (ents tk cs) [] life g dr (tk + 3 * cs.length) o) (1 + (1 + 13 * cs.length)) := by
  unfold subDict
  refine Go.bind go_allocD (Go.n (n := (1 + 13 * cs.length) + 0) ?_ rfl)
  refine Go.bind (a := PUnit.unit) (Go.holding ?_) Go.pure
  rw [if_neg (by simp; omega)]
  refine Go.bind (a := ()) (Go.of_run rfl) (Go.n (n := 13 * (cs.map fun c => (c.key env, c.val env pos)).length + 0) ?_ (by simp))
  have e0 : StD l [] [] life g dr tk o = StD l (ents tk (cs.take 0)) [] life g dr (tk + 3 * 0) o := rfl
  have e1 : StD l (ents tk cs) [] life g dr (tk + 3 * cs.length) o = StD l (ents tk (cs.take (0 + (cs.map fun c => (c.key env, c.val env pos)).length))) [] life g dr (tk + 3 * (0 + (cs.map fun c => (c.key env, c.val env pos)).length)) o := by simp
  rw [e0, e1]
  refine Go.bind (Go.loop (fun j => StD l (ents tk (cs.take j)) [] life g dr (tk + 3 * j) o) 13 pos _ 0 p (by intro e; rw [List.map_eq_nil_iff] at e; rw [e] at hlen; cases hlen) fun j hj q _ => ?_) Go.pure
  rw [List.length_map] at hj
  rw [Nat.zero_add, ents_snoc cs tk j hj, List.getElem_map]
  refine Go.n (Go.bind (go_key _) (Go.bind (Go.holding (go_val _)) (Go.bind (Go.holding (go_pair ?_ h11 ?_)) Go.pure))) rfl
  · intro e he
    have h1 : e.hash ∈ ((cs.take j).map fun c => hashInt c.k) := by rw [← ents_hash _ tk]; exact List.mem_map_of_mem he
    have h2 : (((cs.take j).map fun c => hashInt c.k) ++ [hashInt cs[j].k]).Nodup := by
      have : ((cs.take (j + 1)).map fun c => hashInt c.k) = ((cs.take j).map fun c => hashInt c.k) ++ [hashInt cs[j].k] := by
        rw [List.take_succ_eq_append_getElem hj, List.map_append]; rfl
      rw [← this]
      exact hnd.sublist ((List.take_sublist _ _).map _)
    intro q
    exact (List.nodup_append.mp h2).2.2 _ h1 _ (.head _) q
  · rw [ents_length]; simp; omega
theorem run_type : run ⟨prog, w.params⟩ (typeOf (.ref pre.length)) p (StD pre es post life g dr tk o) = some (.type "dict", p, StD pre es post life g dr tk o, 1) := by
  show run _ ((loadPart pre.length (some headPart)).bind _) p _ = _
  rw [run_bind]
  have e : run ⟨prog, w.params⟩ (loadPart pre.length (some headPart)) p (StD pre es post life g dr tk o) = some (dictO es, p, StD pre es post life g dr tk o, 1) := by
    unfold loadPart; rw [run_load]; rfl
  rw [e]
  rfl
theorem sub_dict : isSubtype (.type "dict") (.type "dict") = pure true := by rw [isSubtype_type]; kernel_rfl
theorem run_inst : run ⟨prog, w.params⟩ (isInstance (.ref pre.length) (.type "dict")) p (StD pre es post life g dr tk o) = some (true, p, StD pre es post life g dr tk o, 1) := by
  unfold isInstance
  show run _ ((typeOf _).bind _) p _ = _
  rw [run_bind, run_type]
  simp only [Option.bind_some]
  rw [sub_dict]
  rfl
theorem run_iter : run ⟨prog, w.params⟩ (specialOf (.ref pre.length) "__iter__") p (StD pre es post life g dr tk o) = some (some (.builtin "dict.__iter__"), p, StD pre es post life g dr tk o, 1) := by
  unfold specialOf
  show run _ ((typeOf _).bind _) p _ = _
  rw [run_bind, run_type]
  simp only [Option.bind_some]
  rw [F.slot_dict_iter.lookup]
  rfl
theorem run_entries : run ⟨prog, w.params⟩ (dictEntries pre.length) p (StD pre es post life g dr tk o) = some (es.toArray, p, StD pre es post life g dr tk o, 1) := by
  have e : dictEntries pre.length = Sem.load pre.length none _ := rfl
  rw [e, run_load]
  rfl
theorem run_epoch : run ⟨prog, w.params⟩ (dictEpoch pre.length) p (StD pre es post life g dr tk o) = some (es.length, p, StD pre es post life g dr tk o, 1) := by
  have e : dictEpoch pre.length = Sem.load pre.length none _ := rfl
  rw [e, run_load]
  rfl
/-- the same state, seen from the dict behind -/
theorem shift {se : List DictEntry} : StD pre es (post ++ [dictO se]) life g dr tk o = StD (pre ++ dictO es :: post) se [] life g dr tk o := by
  unfold StD; simp
end
/-! part H6 -/
section
variable {prog : Program} {w : World} {pre post : List Obj} {es se : List DictEntry} {life : Life} {g : Array GenState} {dr : Drawn} {tk : Nat} {o : OsState} {p : Pos} {env : Env} {pos : Pos} {l : List Obj}
theorem run_entriesS {b : Nat} (hb : b = (pre ++ dictO es :: post).length) : run ⟨prog, w.params⟩ (dictEntries b) p (StD pre es (post ++ [dictO se]) life g dr tk o) = some (se.toArray, p, StD pre es (post ++ [dictO se]) life g dr tk o, 1) := by
  subst hb; rw [shift, run_entries]
theorem run_epochS {b : Nat} (hb : b = (pre ++ dictO es :: post).length) : run ⟨prog, w.params⟩ (dictEpoch b) p (StD pre es (post ++ [dictO se]) life g dr tk o) = some (se.length, p, StD pre es (post ++ [dictO se]) life g dr tk o, 1) := by
  subst hb; rw [shift, run_epoch]
theorem go_merge {b : Nat} (hb : b = (pre ++ dictO es :: post).length) (h11 : 11 ≤ pre.length) (hk : ∀ e ∈ se, ∃ k t, e.key = .int k t) (hnd : ((es ++ se).map (·.hash)).Nodup) (hsz : es.length + se.length ≤ 1000) (hne : es ≠ []) (hse : se ≠ []) (hm : b ≠ sysModules) :
    Go prog w (mergeMapping pre.length (.ref b) false) p (StD pre es (post ++ [dictO se]) life g dr tk o) () p (StD pre (es ++ se) (post ++ [dictO se]) life g dr tk o) (5 + 6 * se.length) := by
  have hi : run ⟨prog, w.params⟩ (isInstance (.ref b) (.type "dict")) p (StD pre es (post ++ [dictO se]) life g dr tk o) = some (true, p, StD pre es (post ++ [dictO se]) life g dr tk o, 1) := by
    subst hb; rw [shift, run_inst]
  have hs : run ⟨prog, w.params⟩ (specialOf (.ref b) "__iter__") p (StD pre es (post ++ [dictO se]) life g dr tk o) = some (some (.builtin "dict.__iter__"), p, StD pre es (post ++ [dictO se]) life g dr tk o, 1) := by
    subst hb; rw [shift, run_iter]
  have hbeq : ((some (.builtin "dict.__iter__") : Option Value) == some (.builtin "dict.__iter__")) = true := by decide
  have hemp : es.toArray.isEmpty = false := by cases es; exact absurd rfl hne; rfl
  unfold mergeMapping
  refine Go.n (Go.bind (Go.of_run hi) (n' := 4 + 6 * se.length) ?_) (by omega)
  rw [if_pos rfl]
  refine Go.n (Go.bind (Go.of_run hs) (n' := 3 + 6 * se.length) ?_) (by omega)
  simp only [hbeq]
  refine Go.n (Go.bind Go.pure (n' := 3 + 6 * se.length) ?_) (by omega)
  show Go prog w (if (b == sysModules) = true then _ else _) _ _ _ _ _ _
  rw [if_neg (by simpa using hm)]
  refine Go.n (Go.bind (Go.of_run run_entries) (n' := 2 + 6 * se.length) ?_) (by omega)
  rw [if_neg (by rw [hemp]; decide)]
  refine Go.n (Go.bind (Go.of_run (run_entriesS hb)) (n' := 1 + 6 * se.length) ?_) (by omega)
  refine Go.n (Go.bind (Go.of_run (run_epochS hb)) (n' := 6 * se.length) ?_) (by omega)
  rw [List.size_toArray]
  have e0 : StD pre es (post ++ [dictO se]) life g dr tk o = StD pre (es ++ se.take 0) (post ++ [dictO se]) life g dr tk o := by simp
  have e1 : StD pre (es ++ se) (post ++ [dictO se]) life g dr tk o = StD pre (es ++ se.take (0 + (List.range se.length).length)) (post ++ [dictO se]) life g dr tk o := by simp
  rw [e0, e1]
  have hl : ∀ j, b = (pre ++ dictO (es ++ se.take j) :: post).length := fun j => by rw [hb]; simp
  refine Go.n (Go.bind (Go.loop (fun j => StD pre (es ++ se.take j) (post ++ [dictO se]) life g dr tk o) 6 p _ 0 p (by intro e; simp at e; exact hse e) fun j hj q hq => ?_) Go.pure) (by simp)
  have hq : q = p := by rcases hq with h | h <;> exact h
  subst hq
  rw [List.length_range] at hj
  have hj' : (List.range se.length)[j]'(by simpa using hj) = j := by simp
  rw [hj', Nat.zero_add]
  refine Go.n (Go.bind (Go.of_run (run_entriesS (hl j))) (n' := 5) ?_) (by omega)
  have he : se.toArray[j]? = some se[j] := by simpa using hj
  obtain ⟨k, t, hkt⟩ := hk se[j] (List.getElem_mem hj)
  have ht : es ++ se.take (j + 1) = (es ++ se.take j) ++ [⟨se[j].hash, .int k t, se[j].val⟩] := by
    rw [List.take_succ_eq_append_getElem hj, ← hkt, List.append_assoc]
  simp only [he]
  rw [if_neg (by decide), hkt, ht]
  refine Go.n (Go.bind (Go.holding (Go.of_run (run_put ?_ h11 ?_))) (n' := 1) ?_) (by omega)
  · intro x hx e
    have h2 : ((es ++ se.take j).map (·.hash) ++ [se[j].hash]).Nodup := by
      have : (es ++ se.take (j + 1)).map (·.hash) = (es ++ se.take j).map (·.hash) ++ [se[j].hash] := by rw [ht]; simp
      rw [← this]
      exact hnd.sublist ((List.Sublist.append (List.Sublist.refl _) (List.take_sublist _ _)).map _)
    exact (List.nodup_append.mp h2).2.2 _ (List.mem_map_of_mem hx) _ (.head _) e
  · simp; omega
  refine Go.n (Go.bind (Go.of_run (run_epochS (by rw [hb]; simp))) (n' := 0) ?_) (by omega)
  rw [if_neg (by simp)]
  exact Go.pure
end
/-! part H7 -/
section
variable {prog : Program} {w : World} {pre post : List Obj} {es se : List DictEntry} {life : Life} {g : Array GenState} {dr : Drawn} {tk : Nat} {o : OsState} {p : Pos} {env : Env} {pos : Pos} {l : List Obj}
noncomputable def PD.item (env : Env) (pos : Pos) (c : PD) : Option (Sem Value) × Sem Value := (some (c.key env), c.val env pos)
theorem forIn_short {f : Option (Sem Value) × Sem Value → (Option Addr × List (Sem Value × Sem Value)) → Sem (ForInStep ((Option Addr × List (Sem Value × Sem Value))))}
    (hs : ∀ c m r, r.length < 16 → f (PD.item env pos c) ⟨m, r⟩ = pure (.yield ⟨m, r ++ [(c.key env, c.val env pos)]⟩)) : ∀ (cs : List PD) (m) (r) (rest), r.length + cs.length ≤ 16 →
    forIn (cs.map (PD.item env pos) ++ rest) (⟨m, r⟩ : (Option Addr × List (Sem Value × Sem Value))) f = forIn rest ⟨m, r ++ cs.map fun c => (c.key env, c.val env pos)⟩ f := by
  intro cs
  induction cs with
  | nil => intro m r rest _; simp
  | cons c cs ih =>
    intro m r rest hl
    simp only [List.length_cons] at hl
    rw [List.map_cons, List.cons_append, List.forIn_cons, hs c m r (by omega)]
    show forIn (cs.map (PD.item env pos) ++ rest) _ f = _
    rw [ih _ _ _ (by simp; omega)]
    simp
theorem go_chunks {f : Option (Sem Value) × Sem Value → (Option Addr × List (Sem Value × Sem Value)) → Sem (ForInStep ((Option Addr × List (Sem Value × Sem Value))))}
    (hs : ∀ c m r, r.length < 16 → f (PD.item env pos c) ⟨m, r⟩ = pure (.yield ⟨m, r ++ [(c.key env, c.val env pos)]⟩))
    (M : Nat → Option Addr) (S : Nat → Shared) (C : Nat → Nat) {rest : List (Option (Sem Value) × Sem Value)} {b : (Option Addr × List (Sem Value × Sem Value))} {p' : Pos} {s' : Shared} {n' : Nat} :
    ∀ (css : List (List PD)) (i : Nat) (q : Pos), (∀ cs ∈ css, cs.length = 17) →
    (∀ j (hj : j < css.length) (q : Pos) r c, css[j] = r ++ [c] → Go prog w (f (PD.item env pos c) ⟨M (i + j), r.map fun c => (c.key env, c.val env pos)⟩) q (S (i + j)) (.yield ⟨M (i + j + 1), []⟩) pos (S (i + j + 1)) (C (i + j))) →
    (css = [] → q = pos) → Go prog w (forIn rest ⟨M (i + css.length), []⟩ f) pos (S (i + css.length)) b p' s' n' →
    Go prog w (forIn (css.flatten.map (PD.item env pos) ++ rest) ⟨M i, []⟩ f) q (S i) b p' s' (((List.range css.length).map fun j => C (i + j)).sum + n') := by
  intro css
  induction css with
  | nil => intro i q _ _ hq h; obtain rfl := hq rfl; exact Go.n h (by simp)
  | cons cs css ih =>
    intro i q hl hf _ hr
    have hcs : cs.length = 17 := hl cs (.head _)
    have hne : cs ≠ [] := by intro e; rw [e] at hcs; cases hcs
    have hsp := List.dropLast_concat_getLast hne
    have h1 := hf 0 (by simp) q cs.dropLast (cs.getLast hne) hsp.symm
    rw [List.flatten_cons, List.map_append, List.append_assoc]
    have e0 : cs.map (PD.item env pos) = cs.dropLast.map (PD.item env pos) ++ [PD.item env pos (cs.getLast hne)] := by
      rw [← List.map_singleton, ← List.map_append, hsp]
    rw [e0, List.append_assoc]
    refine Go.eq (forIn_short hs cs.dropLast (M i) [] _ (by simp [hcs])) ?_
    rw [List.cons_append, List.nil_append, List.nil_append, List.forIn_cons]
    have h2 := ih (i + 1) pos (fun cs h => hl cs (.tail _ h)) (fun j hj q r c e => by
      have := hf (j + 1) (by simp; omega) q r c (by simpa using e)
      rw [show i + 1 + j = i + (j + 1) by omega]
      exact this) (fun _ => rfl) (by
      have := hr
      rw [show i + 1 + css.length = i + (cs :: css).length by simp only [List.length_cons]; omega]
      exact this)
    refine Go.n (Go.bind h1 h2) ?_
    rw [List.length_cons, List.range_succ_eq_map, List.map_cons, List.sum_cons, List.map_map, Nat.add_assoc]
    congr 2
    · congr 1
      apply List.map_congr_left
      intro j _
      show C (i + 1 + j) = C (i + (j + 1))
      congr 1; omega
theorem go_four (a b c d : PD) (h11 : 11 ≤ l.length) (hnd : ([a, b, c, d].map fun c => hashInt c.k).Nodup) : ∃ es, es = [⟨hashInt a.k, .int a.k tk, .str a.s (tk + 1)⟩, ⟨hashInt b.k, .int b.k (tk + 2), .str b.s (tk + 3)⟩, ⟨hashInt c.k, .int c.k (tk + 4), .str c.s (tk + 5)⟩, ⟨hashInt d.k, .int d.k (tk + 6), .str d.s (tk + 7)⟩] ∧
    Go prog w (subDict ([a, b, c, d].map fun c => (c.key env, c.val env pos))) p (Sl l life g dr tk o) l.length pos (StD l es [] life g dr (tk + 12) o) 53 := by
  refine ⟨_, rfl, ?_⟩
  unfold subDict
  refine Go.n (Go.bind go_allocD (n' := 52) ?_) rfl
  refine Go.n (Go.bind (a := PUnit.unit) (n' := 0) (n := 52) (Go.holding ?_) Go.pure) rfl
  rw [if_pos (by simp)]
  have he : Go prog w (evalPairs ([a, b, c, d].map fun c => (c.key env, c.val env pos))) p (StD l [] [] life g dr tk o) [(.int a.k tk, .str a.s (tk + 1)), (.int b.k (tk + 2), .str b.s (tk + 3)), (.int c.k (tk + 4), .str c.s (tk + 5)), (.int d.k (tk + 6), .str d.s (tk + 7))] pos (StD l [] [] life g dr (tk + 8) o) 12 := by
    simp only [List.map_cons, List.map_nil]
    refine Go.n (Go.bind (go_key a) (Go.bind (Go.holding (go_val a)) (Go.bind (Go.holding (Go.bind (go_key b) (Go.bind (Go.holding (go_val b)) (Go.bind (Go.holding (Go.bind (go_key c) (Go.bind (Go.holding (go_val c)) (Go.bind (Go.holding (Go.bind (go_key d) (Go.bind (Go.holding (go_val d)) (Go.bind (Go.holding Go.pure) Go.pure)))) Go.pure)))) Go.pure)))) Go.pure))) rfl
  refine Go.n (Go.bind he (n' := 40) ?_) rfl
  refine Go.holding ?_
  simp only [List.map_cons, List.map_nil, List.nodup_cons, List.mem_cons, List.not_mem_nil, or_false, not_or] at hnd
  simp only [List.forIn_cons, List.forIn_nil]
  refine Go.n (Go.bind (a := PUnit.unit) (n := 40) (n' := 0) ?_ Go.pure) rfl
  refine Go.n (Go.bind (a := ForInStep.yield PUnit.unit) (n := 10) (n' := 30) (Go.n (Go.bind (n := 10) (n' := 0) (go_pair (tk := tk + 8) (es := []) ?_ h11 ?_) Go.pure) rfl) ?_) rfl
  · simp
  · simp
  refine Go.n (Go.bind (a := ForInStep.yield PUnit.unit) (n := 10) (n' := 20) (Go.n (Go.bind (n := 10) (n' := 0) (go_pair (tk := tk + 9) (es := [⟨hashInt a.k, .int a.k tk, .str a.s (tk + 1)⟩]) ?_ h11 ?_) Go.pure) rfl) ?_) rfl
  · simp; exact hnd.1.1
  · simp
  refine Go.n (Go.bind (a := ForInStep.yield PUnit.unit) (n := 10) (n' := 10) (Go.n (Go.bind (n := 10) (n' := 0) (go_pair (tk := tk + 10) (es := [⟨hashInt a.k, .int a.k tk, .str a.s (tk + 1)⟩, ⟨hashInt b.k, .int b.k (tk + 2), .str b.s (tk + 3)⟩]) ?_ h11 ?_) Go.pure) rfl) ?_) rfl
  · simp; exact ⟨hnd.1.2.1, hnd.2.1.1⟩
  · simp
  refine Go.n (Go.bind (a := ForInStep.yield PUnit.unit) (n := 10) (n' := 0) (Go.n (Go.bind (n := 10) (n' := 0) (go_pair (tk := tk + 11) (es := [⟨hashInt a.k, .int a.k tk, .str a.s (tk + 1)⟩, ⟨hashInt b.k, .int b.k (tk + 2), .str b.s (tk + 3)⟩, ⟨hashInt c.k, .int c.k (tk + 4), .str c.s (tk + 5)⟩]) ?_ h11 ?_) Go.pure) rfl) ?_) rfl
  · simp; exact ⟨hnd.1.2.2, hnd.2.1.2, hnd.2.2.1⟩
  · simp
  exact Go.pure
end
/-! part H8 -/
section
variable {prog : Program} {w : World} {pre post : List Obj} {es se : List DictEntry} {life : Life} {g : Array GenState} {dr : Drawn} {tk : Nat} {o : OsState} {p : Pos} {env : Env} {pos : Pos} {l : List Obj}
noncomputable def posts (tk : Nat) (css : List (List PD)) (j : Nat) : List Obj := (List.range j).map fun i => dictO (ents (tk + 51 * (i + 1)) (css.getD (i + 1) []))
noncomputable def stAt (l : List Obj) (tk : Nat) (css : List (List PD)) (life : Life) (g : Array GenState) (dr : Drawn) (o : OsState) : Nat → Shared
  | 0 => Sl l life g dr tk o
  | j + 1 => StD l (ents tk (css.take (j + 1)).flatten) (posts tk css j) life g dr (tk + 51 * (j + 1)) o
noncomputable def mainAt (l : List Obj) : Nat → Option Addr
  | 0 => none
  | _ + 1 => some l.length
noncomputable def costAt : Nat → Nat
  | 0 => 223
  | _ + 1 => 330
theorem flat_len {css : List (List PD)} (hl : ∀ cs ∈ css, cs.length = 17) : css.flatten.length = 17 * css.length := by
  induction css with
  | nil => rfl
  | cons c r ih => rw [List.flatten_cons, List.length_append, hl c (.head _), ih fun cs h => hl cs (.tail _ h), List.length_cons]; omega
theorem item_map (cs : List PD) : (cs.map fun c => (c.key env, c.val env pos)).length = cs.length := by simp
/-- a chunk behind the first: built, then merged -/
theorem sub_more (cs : List PD) (hlen : cs.length = 17) (h11 : 11 ≤ pre.length) (hnd : (cs.map fun c => hashInt c.k).Nodup) :
    Go prog w (subDict (cs.map fun c => (c.key env, c.val env pos))) p (StD pre es post life g dr tk o) (pre ++ dictO es :: post).length pos (StD pre es (post ++ [dictO (ents tk cs)]) life g dr (tk + 51) o) 223 := by
  have h := go_sub (prog := prog) (w := w) (l := pre ++ dictO es :: post) (life := life) (g := g) (dr := dr) (tk := tk) (o := o) (p := p) (env := env) (pos := pos) cs (by omega) (by omega) (by simp; omega) hnd
  rw [hlen] at h
  rw [shift, ← sl_std]
  exact Go.n h rfl
theorem go_display (css : List (List PD)) (hl : ∀ cs ∈ css, cs.length = 17) (m : Nat) (h0 : css.length = m + 1) (a b c d : PD) (hnd : ((css.flatten ++ [a, b, c, d]).map fun c => hashInt c.k).Nodup) (hsz : css.flatten.length ≤ 900) (h11 : 11 ≤ l.length) (hsys : sysModules < l.length) :
    ∃ es post, es = ents tk css.flatten ++ [⟨hashInt a.k, .int a.k (tk + 51 * (m + 1)), .str a.s (tk + 51 * (m + 1) + 1)⟩, ⟨hashInt b.k, .int b.k (tk + 51 * (m + 1) + 2), .str b.s (tk + 51 * (m + 1) + 3)⟩, ⟨hashInt c.k, .int c.k (tk + 51 * (m + 1) + 4), .str c.s (tk + 51 * (m + 1) + 5)⟩, ⟨hashInt d.k, .int d.k (tk + 51 * (m + 1) + 6), .str d.s (tk + 51 * (m + 1) + 7)⟩] ∧ post = posts tk css m ++ [dictO [⟨hashInt a.k, .int a.k (tk + 51 * (m + 1)), .str a.s (tk + 51 * (m + 1) + 1)⟩, ⟨hashInt b.k, .int b.k (tk + 51 * (m + 1) + 2), .str b.s (tk + 51 * (m + 1) + 3)⟩, ⟨hashInt c.k, .int c.k (tk + 51 * (m + 1) + 4), .str c.s (tk + 51 * (m + 1) + 5)⟩, ⟨hashInt d.k, .int d.k (tk + 51 * (m + 1) + 6), .str d.s (tk + 51 * (m + 1) + 7)⟩]] ∧
    Go prog w (dictDisplay ((css.flatten ++ [a, b, c, d]).map (PD.item env pos))) p (Sl l life g dr tk o) (.ref l.length) pos (StD l es post life g dr (tk + 51 * (m + 1) + 12) o) (((List.range (m + 1)).map costAt).sum + (53 + 29)) := by
  obtain ⟨fs, hfs, hfour⟩ := go_four (prog := prog) (w := w) (life := life) (g := g) (dr := dr) (o := o) (p := pos) (env := env) (pos := pos) (tk := tk + 51 * (m + 1)) (l := l ++ dictO (ents tk css.flatten) :: posts tk css m) a b c d (by simp; omega) (by
    rw [List.map_append] at hnd; exact (List.nodup_append.mp hnd).2.1)
  refine ⟨ents tk css.flatten ++ fs, posts tk css m ++ [dictO fs], by rw [hfs], by rw [hfs], ?_⟩
  have hnd1 : ∀ j (hj : j < css.length), (css[j].map fun c => hashInt c.k).Nodup := by
    intro j hj
    rw [List.map_append] at hnd
    exact (List.nodup_append.mp hnd).1.sublist ((List.sublist_flatten_of_mem (List.getElem_mem hj)).map _)
  have htk : ∀ j, (css.take (j + 1)).flatten.length = 17 * (min (j + 1) css.length) := by
    intro j
    rw [flat_len fun cs h => hl cs (List.mem_of_mem_take h), List.length_take]
  have hents : ∀ j (hj : j + 1 < css.length), ents tk (css.take (j + 2)).flatten = ents tk (css.take (j + 1)).flatten ++ ents (tk + 51 * (j + 1)) css[j + 1] := by
    intro j hj
    rw [List.take_succ_eq_append_getElem hj, List.flatten_append, ents_append, htk j]
    have : min (j + 1) css.length = j + 1 := by omega
    rw [this, List.flatten_singleton, show 3 * (17 * (j + 1)) = 51 * (j + 1) by omega]
  have hposts : ∀ j (hj : j + 1 < css.length), posts tk css (j + 1) = posts tk css j ++ [dictO (ents (tk + 51 * (j + 1)) css[j + 1])] := by
    intro j hj
    unfold posts
    rw [List.range_succ, List.map_append, List.map_singleton]
    have : css.getD (j + 1) [] = css[j + 1] := by simp [List.getD, hj]
    rw [this]
  have hne : ∀ j (hj : j < css.length), ents tk (css.take (j + 1)).flatten ≠ [] := by
    intro j hj e
    have := congrArg List.length e
    rw [ents_length, htk j] at this
    simp only [List.length_nil] at this; omega
  have hsub : ∀ j, (css.take j).flatten.Sublist css.flatten := by
    intro j
    have : css.flatten = (css.take j).flatten ++ (css.drop j).flatten := by rw [← List.flatten_append, List.take_append_drop]
    rw [this]; exact List.sublist_append_left _ _
  unfold dictDisplay
  rw [List.map_append]
  refine Go.n (Go.bind (n := ((List.range (m + 1)).map costAt).sum + 0) (n' := 53 + 29) (a := ⟨some l.length, [a, b, c, d].map fun c => (c.key env, c.val env pos)⟩) (p' := pos) (s' := stAt l tk css life g dr o (m + 1)) ?_ ?_) (by omega)
  · have := go_chunks (prog := prog) (w := w) (env := env) (pos := pos) (f := ?f) ?hs (mainAt l) (stAt l tk css life g dr o) costAt (rest := [a, b, c, d].map (PD.item env pos)) (b := ⟨some l.length, [a, b, c, d].map fun c => (c.key env, c.val env pos)⟩) (p' := pos) (s' := stAt l tk css life g dr o (m + 1)) (n' := 0) css 0 p hl ?hf (fun e => by rw [e] at h0; cases h0) ?hr
    · simp only [Nat.zero_add, h0] at this
      exact this
    case hs =>
      intro c m r hr
      show (if ((r ++ [(c.key env, c.val env pos)]).length == 17) = true then _ else _) = _
      rw [if_neg (by simp; omega)]
    case hr =>
      rw [Nat.zero_add, h0]
      simp only [List.map_cons, List.map_nil, List.forIn_cons, List.forIn_nil]
      exact Go.eq (m' := Sem.pure (some l.length, [(a.key env, a.val env pos), (b.key env, b.val env pos), (c.key env, c.val env pos), (d.key env, d.val env pos)])) rfl Go.pure
    case hf =>
      intro j hj q r c e
      have hln : r.length = 16 := by have := hl _ (List.getElem_mem hj); rw [e] at this; simpa using this
      rw [Nat.zero_add]
      show Go prog w (if (((r.map fun c => (c.key env, c.val env pos)) ++ [(c.key env, c.val env pos)]).length == 17) = true then _ else _) _ _ _ _ _ _
      rw [if_pos (by simp [hln])]
      have ecs : (r.map fun c => (c.key env, c.val env pos)) ++ [(c.key env, c.val env pos)] = css[j].map fun c => (c.key env, c.val env pos) := by rw [e]; simp
      rw [ecs]
      refine Go.n (Go.bind (a := some l.length) (n := costAt j) (n' := 0) (s' := stAt l tk css life g dr o (j + 1)) (p' := pos) ?_ Go.pure) rfl
      show Go prog w (if (css[j].map fun c => (c.key env, c.val env pos)).isEmpty = true then _ else _) _ _ _ _ _ _
      rw [if_neg (by rw [e]; simp)]
      have hlj : css[j].length = 17 := hl _ (List.getElem_mem hj)
      cases j with
      | zero =>
        refine Go.n (Go.bind (n := 223) (n' := 0) (a := l.length) (p' := pos) ?_ Go.pure) rfl
        have := go_sub (prog := prog) (w := w) (l := l) (life := life) (g := g) (dr := dr) (tk := tk) (o := o) (p := q) (env := env) (pos := pos) css[0] (by omega) (by omega) h11 (hnd1 0 hj)
        rw [hlj] at this
        have e1 : (css.take (0 + 1)).flatten = css[0] := by
          rw [List.take_succ_eq_append_getElem hj]; simp
        show Go prog w _ _ _ _ _ (StD l (ents tk (css.take (0 + 1)).flatten) [] life g dr (tk + 51 * (0 + 1)) o) _
        rw [e1]
        exact Go.n this rfl
      | succ j =>
        refine Go.n (Go.bind (n := 223) (n' := 107) (Go.holding (sub_more css[j + 1] hlj h11 (hnd1 _ hj))) ?_) rfl
        have hm := go_merge (prog := prog) (w := w) (pre := l) (es := ents tk (css.take (j + 1)).flatten) (se := ents (tk + 51 * (j + 1)) css[j + 1]) (post := posts tk css j) (life := life) (g := g) (dr := dr) (tk := tk + 51 * (j + 2)) (o := o) (p := pos) rfl h11 (ents_key _ _)
          (by
            rw [← hents j hj, ents_hash]
            rw [List.map_append] at hnd
            exact (List.nodup_append.mp hnd).1.sublist ((hsub _).map _))
          (by
            rw [← List.length_append, ← hents j hj, ents_length]
            exact Nat.le_trans (hsub _).length_le (Nat.le_trans hsz (by decide)))
          (hne j (by omega)) (by intro e; have := congrArg List.length e; rw [ents_length, hlj] at this; cases this) (Nat.ne_of_gt (Nat.lt_of_lt_of_le hsys (by simp)))
        rw [ents_length, hlj, ← hents j hj, ← hposts j hj] at hm
        rw [show tk + 51 * (j + 1) + 51 = tk + 51 * (j + 2) by omega, ← hposts j hj]
        exact Go.n (Go.bind (n := 107) (n' := 0) (Go.onRaise (Go.holding hm)) Go.pure) rfl
  · have eS : stAt l tk css life g dr o (m + 1) = StD l (ents tk css.flatten) (posts tk css m) life g dr (tk + 51 * (m + 1)) o := by
      show StD l (ents tk (css.take (m + 1)).flatten) _ _ _ _ _ _ = _
      rw [← h0, List.take_length]
    rw [eS]
    refine Go.n (Go.bind (n := 53 + 29) (n' := 0) (a := some l.length) (p' := pos) (s' := StD l (ents tk css.flatten ++ fs) (posts tk css m ++ [dictO fs]) life g dr (tk + 51 * (m + 1) + 12) o) ?_ Go.pure) rfl
    show Go prog w (if ([a, b, c, d].map fun c => (c.key env, c.val env pos)).isEmpty = true then _ else _) _ _ _ _ _ _
    rw [if_neg (by simp)]
    have hm := go_merge (prog := prog) (w := w) (pre := l) (es := ents tk css.flatten) (se := fs) (post := posts tk css m) (life := life) (g := g) (dr := dr) (tk := tk + 51 * (m + 1) + 12) (o := o) (p := pos) rfl h11 
      (by
        subst hfs; intro e he
        simp only [List.mem_cons, List.not_mem_nil, or_false] at he
        rcases he with rfl | rfl | rfl | rfl <;> exact ⟨_, _, rfl⟩)
      (by
        have e1 : (ents tk css.flatten ++ fs).map (·.hash) = (css.flatten ++ [a, b, c, d]).map fun c => hashInt c.k := by
          rw [List.map_append, ents_hash, List.map_append, hfs]; rfl
        rw [e1]; exact hnd)
      (by rw [ents_length, hfs]; show css.flatten.length + 4 ≤ 1000; omega)
      (by have := hne m (by omega); rw [← h0, List.take_length] at this; exact this) (by rw [hfs]; simp) (Nat.ne_of_gt (Nat.lt_of_lt_of_le hsys (by simp)))
    have e4 : fs.length = 4 := by rw [hfs]; rfl
    rw [e4] at hm
    refine Go.n (Go.bind (n := 53) (n' := 29) (a := (l ++ dictO (ents tk css.flatten) :: posts tk css m).length) (p' := pos) (s' := StD l (ents tk css.flatten) (posts tk css m ++ [dictO fs]) life g dr (tk + 51 * (m + 1) + 12) o) (Go.holding ?_) ?_) rfl
    · rw [shift, ← sl_std]; exact hfour
    · exact Go.n (Go.bind (n := 29) (n' := 0) (Go.onRaise (Go.holding hm)) Go.pure) rfl
end
/-! part H9 -/
noncomputable abbrev pw : Program := PySem.Challenge.pw_wo0056_01
noncomputable def fnD (i : Nat) (f : Arguments → List Stmt → Scope → FuncData) : Data := match pw.main.body[i]? with | some (.FunctionDef _ a b _ _ _ s _ _ _) => .func (f a b s) | _ => .plain
noncomputable def opre11 : Obj := ⟨.type "tuple", none, (.seq #[] 0), #[]⟩
noncomputable def opre12 : Obj := ⟨.none, none, (.fields #[]), #[]⟩
noncomputable def opre13 : Obj := ⟨.type "code", none, (.fields #[.str ⟨#[60, 109, 111, 100, 117, 108, 101, 62]⟩ 182, .str ⟨#[60, 109, 111, 100, 117, 108, 101, 62]⟩ 183, .str ⟨#[47, 99, 108, 97, 105, 109, 47, 99, 117, 116, 46, 112, 121]⟩ 184, .int (1) 0, .int (0) 0, .int (0) 0, .int (0) 0, .int (0) 0, .ref 11, .bool false, .int (181) 0, .ref 12, .none, .none, .none, .none, .int (185) 0, .int (1) 0, .str ⟨#[47, 99, 108, 97, 105, 109, 47, 99, 117, 116, 46, 112, 121]⟩ 186]), #[]⟩
noncomputable def opre14 : Obj := ⟨.type "frame", none, .plain, #[(some (.ref 13)), (some (.ref 3)), (some (.ref 3)), none, (some (.str ⟨#[95, 95, 109, 97, 105, 110, 95, 95]⟩ 164)), none, (some (.ref 0))]⟩
noncomputable def lP (P : Params) : List Obj := [boot_o_0 P, boot_o_1 P, boot_o_2 P, boot_o_3 P, boot_o_4 P, boot_o_5 P, boot_o_6 P, boot_o_7 P, boot_o_8 P, boot_o_9 P, boot_o_10 P, opre11, opre12, opre13, opre14]
noncomputable def oA3 (P : Params) : Obj := ⟨.type "dict", none, (.dict #[⟨PyData.keyHash P ⟨#[95, 95, 110, 97, 109, 101, 95, 95]⟩, .str ⟨#[95, 95, 110, 97, 109, 101, 95, 95]⟩ 165, .str ⟨#[99, 112, 121, 51, 49, 51, 46, 115, 116, 114, 105, 110, 103, 112, 114, 101, 112]⟩ 265⟩, ⟨PyData.keyHash P ⟨#[95, 95, 100, 111, 99, 95, 95]⟩, .str ⟨#[95, 95, 100, 111, 99, 95, 95]⟩ 166, .none⟩, ⟨PyData.keyHash P ⟨#[95, 95, 112, 97, 99, 107, 97, 103, 101, 95, 95]⟩, .str ⟨#[95, 95, 112, 97, 99, 107, 97, 103, 101, 95, 95]⟩ 167, .none⟩, ⟨PyData.keyHash P ⟨#[95, 95, 108, 111, 97, 100, 101, 114, 95, 95]⟩, .str ⟨#[95, 95, 108, 111, 97, 100, 101, 114, 95, 95]⟩ 168, .builtin "__main__.__loader__#opaque"⟩, ⟨PyData.keyHash P ⟨#[95, 95, 115, 112, 101, 99, 95, 95]⟩, .str ⟨#[95, 95, 115, 112, 101, 99, 95, 95]⟩ 169, .none⟩, ⟨PyData.keyHash P ⟨#[95, 95, 97, 110, 110, 111, 116, 97, 116, 105, 111, 110, 115, 95, 95]⟩, .str ⟨#[95, 95, 97, 110, 110, 111, 116, 97, 116, 105, 111, 110, 115, 95, 95]⟩ 170, .ref 6⟩, ⟨PyData.keyHash P ⟨#[95, 95, 98, 117, 105, 108, 116, 105, 110, 115, 95, 95]⟩, .str ⟨#[95, 95, 98, 117, 105, 108, 116, 105, 110, 115, 95, 95]⟩ 171, .ref 4⟩, ⟨PyData.keyHash P ⟨#[95, 95, 102, 105, 108, 101, 95, 95]⟩, .str ⟨#[95, 95, 102, 105, 108, 101, 95, 95]⟩ 173, .str ⟨#[47, 99, 108, 97, 105, 109, 47, 99, 117, 116, 46, 112, 121]⟩ 172⟩, ⟨PyData.keyHash P ⟨#[95, 95, 99, 97, 99, 104, 101, 100, 95, 95]⟩, .str ⟨#[95, 95, 99, 97, 99, 104, 101, 100, 95, 95]⟩ 174, .none⟩, ⟨PyData.keyHash P ⟨#[69, 76, 76, 73, 80, 83, 73, 83, 95, 77, 65, 82, 75, 69, 82]⟩, .str ⟨#[69, 76, 76, 73, 80, 83, 73, 83, 95, 77, 65, 82, 75, 69, 82]⟩ 190, .str ⟨#[46, 46, 46]⟩ 189⟩, ⟨PyData.keyHash P ⟨#[95, 101, 108, 108, 105, 112, 115, 105, 115, 95, 109, 97, 116, 99, 104]⟩, .str ⟨#[95, 101, 108, 108, 105, 112, 115, 105, 115, 95, 109, 97, 116, 99, 104]⟩ 202, .ref 21⟩, ⟨PyData.keyHash P ⟨#[73, 110, 116, 50, 65, 80]⟩, .str ⟨#[73, 110, 116, 50, 65, 80]⟩ 214, .ref 28⟩, ⟨PyData.keyHash P ⟨#[97, 100, 100]⟩, .str ⟨#[97, 100, 100]⟩ 224, .ref 35⟩, ⟨PyData.keyHash P ⟨#[102, 108, 111, 111, 114, 100, 105, 118]⟩, .str ⟨#[102, 108, 111, 111, 114, 100, 105, 118]⟩ 232, .ref 42⟩, ⟨PyData.keyHash P ⟨#[108, 115, 104, 105, 102, 116]⟩, .str ⟨#[108, 115, 104, 105, 102, 116]⟩ 240, .ref 49⟩, ⟨PyData.keyHash P ⟨#[109, 111, 100]⟩, .str ⟨#[109, 111, 100]⟩ 248, .ref 56⟩, ⟨PyData.keyHash P ⟨#[109, 117, 108]⟩, .str ⟨#[109, 117, 108]⟩ 256, .ref 63⟩, ⟨PyData.keyHash P ⟨#[115, 117, 98]⟩, .str ⟨#[115, 117, 98]⟩ 264, .ref 70⟩] 18), #[]⟩
noncomputable def oA12 : Obj := ⟨.none, none, (.fields #[.int (3) 0, .int (0) 0, .ref 20, .int (32) 0, .int (0) 0, .ref 27, .int (41) 0, .int (0) 0, .ref 34, .int (43) 0, .int (0) 0, .ref 41, .int (45) 0, .int (0) 0, .ref 48, .int (47) 0, .int (0) 0, .ref 55, .int (49) 0, .int (0) 0, .ref 62, .int (51) 0, .int (0) 0, .ref 69]), #[]⟩
noncomputable def oA15 : Obj := ⟨.type "tuple", none, (.seq #[] 0), #[]⟩
noncomputable def oA16 : Obj := ⟨.none, none, (.fields #[]), #[]⟩
noncomputable def oA17 : Obj := ⟨.type "tuple", none, (.seq #[.str ⟨#[119, 97, 110, 116]⟩ 194, .str ⟨#[103, 111, 116]⟩ 195, .str ⟨#[119, 115]⟩ 196, .str ⟨#[115, 116, 97, 114, 116, 112, 111, 115]⟩ 197, .str ⟨#[101, 110, 100, 112, 111, 115]⟩ 198, .str ⟨#[119]⟩ 199] 0), #[]⟩
noncomputable def oA18 : Obj := ⟨.type "tuple", none, (.seq #[] 0), #[]⟩
noncomputable def oA19 : Obj := ⟨.none, none, (fnD 2 fun args body scope => { name := ⟨#[95, 101, 108, 108, 105, 112, 115, 105, 115, 95, 109, 97, 116, 99, 104]⟩, qualname := ⟨#[95, 101, 108, 108, 105, 112, 115, 105, 115, 95, 109, 97, 116, 99, 104]⟩, params := args, body := .stmts body, scope := scope, globals := 0, closure := [], defaults := .none, kwdefaults := .none, doc := .none, pyModule := .none, annotations := none, code := .none, closureTuple := .none, builtins := 0 }), #[]⟩
noncomputable def oA20 : Obj := ⟨.type "code", none, (.fields #[.str ⟨#[95, 101, 108, 108, 105, 112, 115, 105, 115, 95, 109, 97, 116, 99, 104]⟩ 191, .str ⟨#[95, 101, 108, 108, 105, 112, 115, 105, 115, 95, 109, 97, 116, 99, 104]⟩ 192, .str ⟨#[47, 99, 108, 97, 105, 109, 47, 99, 117, 116, 46, 112, 121]⟩ 193, .int (3) 0, .int (2) 0, .int (0) 0, .int (0) 0, .int (3) 0, .ref 15, .bool true, .int (181) 0, .ref 16, .none, .ref 17, .ref 18, .ref 19, .int (200) 0, .int (3) 0, .str ⟨#[47, 99, 108, 97, 105, 109, 47, 99, 117, 116, 46, 112, 121]⟩ 201]), #[]⟩
noncomputable def oA21 : Obj := ⟨.type "function", none, (fnD 2 fun args body scope => { name := ⟨#[95, 101, 108, 108, 105, 112, 115, 105, 115, 95, 109, 97, 116, 99, 104]⟩, qualname := ⟨#[95, 101, 108, 108, 105, 112, 115, 105, 115, 95, 109, 97, 116, 99, 104]⟩, params := args, body := .stmts body, scope := scope, globals := 3, closure := [], defaults := .none, kwdefaults := .none, doc := .none, pyModule := .str ⟨#[99, 112, 121, 51, 49, 51, 46, 100, 111, 99, 116, 101, 115, 116]⟩ 187, annotations := none, code := .ref 20, closureTuple := .none, builtins := 0 }), #[]⟩
noncomputable def oA22 : Obj := ⟨.type "tuple", none, (.seq #[] 0), #[]⟩
noncomputable def oA23 : Obj := ⟨.none, none, (.fields #[]), #[]⟩
noncomputable def oA24 : Obj := ⟨.type "tuple", none, (.seq #[.str ⟨#[110, 117, 109]⟩ 208, .str ⟨#[118, 97, 108]⟩ 209, .str ⟨#[65, 80]⟩ 210, .str ⟨#[109, 111, 100]⟩ 211] 0), #[]⟩
noncomputable def oA25 : Obj := ⟨.type "tuple", none, (.seq #[] 0), #[]⟩
noncomputable def oA26 : Obj := ⟨.none, none, (fnD 4 fun args body scope => { name := ⟨#[73, 110, 116, 50, 65, 80]⟩, qualname := ⟨#[73, 110, 116, 50, 65, 80]⟩, params := args, body := .stmts body, scope := scope, globals := 0, closure := [], defaults := .none, kwdefaults := .none, doc := .none, pyModule := .none, annotations := none, code := .none, closureTuple := .none, builtins := 0 }), #[]⟩
noncomputable def oA27 : Obj := ⟨.type "code", none, (.fields #[.str ⟨#[73, 110, 116, 50, 65, 80]⟩ 205, .str ⟨#[73, 110, 116, 50, 65, 80]⟩ 206, .str ⟨#[47, 99, 108, 97, 105, 109, 47, 99, 117, 116, 46, 112, 121]⟩ 207, .int (32) 0, .int (1) 0, .int (0) 0, .int (0) 0, .int (3) 0, .ref 22, .bool true, .int (181) 0, .ref 23, .none, .ref 24, .ref 25, .ref 26, .int (212) 0, .int (32) 0, .str ⟨#[47, 99, 108, 97, 105, 109, 47, 99, 117, 116, 46, 112, 121]⟩ 213]), #[]⟩
noncomputable def oA28 : Obj := ⟨.type "function", none, (fnD 4 fun args body scope => { name := ⟨#[73, 110, 116, 50, 65, 80]⟩, qualname := ⟨#[73, 110, 116, 50, 65, 80]⟩, params := args, body := .stmts body, scope := scope, globals := 3, closure := [], defaults := .none, kwdefaults := .none, doc := .none, pyModule := .str ⟨#[99, 112, 121, 51, 49, 51, 46, 105, 109, 97, 112, 108, 105, 98]⟩ 203, annotations := none, code := .ref 27, closureTuple := .none, builtins := 0 }), #[]⟩
noncomputable def oA29 : Obj := ⟨.type "tuple", none, (.seq #[] 0), #[]⟩
noncomputable def oA30 : Obj := ⟨.none, none, (.fields #[]), #[]⟩
noncomputable def oA31 : Obj := ⟨.type "tuple", none, (.seq #[.str ⟨#[97]⟩ 220, .str ⟨#[98]⟩ 221] 0), #[]⟩
noncomputable def oA32 : Obj := ⟨.type "tuple", none, (.seq #[] 0), #[]⟩
noncomputable def oA33 : Obj := ⟨.none, none, (fnD 6 fun args body scope => { name := ⟨#[97, 100, 100]⟩, qualname := ⟨#[97, 100, 100]⟩, params := args, body := .stmts body, scope := scope, globals := 0, closure := [], defaults := .none, kwdefaults := .none, doc := .none, pyModule := .none, annotations := none, code := .none, closureTuple := .none, builtins := 0 }), #[]⟩
noncomputable def oA34 : Obj := ⟨.type "code", none, (.fields #[.str ⟨#[97, 100, 100]⟩ 217, .str ⟨#[97, 100, 100]⟩ 218, .str ⟨#[47, 99, 108, 97, 105, 109, 47, 99, 117, 116, 46, 112, 121]⟩ 219, .int (41) 0, .int (2) 0, .int (0) 0, .int (0) 0, .int (3) 0, .ref 29, .bool true, .int (181) 0, .ref 30, .none, .ref 31, .ref 32, .ref 33, .int (222) 0, .int (41) 0, .str ⟨#[47, 99, 108, 97, 105, 109, 47, 99, 117, 116, 46, 112, 121]⟩ 223]), #[]⟩
noncomputable def oA35 : Obj := ⟨.type "function", none, (fnD 6 fun args body scope => { name := ⟨#[97, 100, 100]⟩, qualname := ⟨#[97, 100, 100]⟩, params := args, body := .stmts body, scope := scope, globals := 3, closure := [], defaults := .none, kwdefaults := .none, doc := .none, pyModule := .str ⟨#[99, 112, 121, 51, 49, 51, 46, 111, 112, 101, 114, 97, 116, 111, 114]⟩ 215, annotations := none, code := .ref 34, closureTuple := .none, builtins := 0 }), #[]⟩
noncomputable def oA36 : Obj := ⟨.type "tuple", none, (.seq #[] 0), #[]⟩
noncomputable def oA37 : Obj := ⟨.none, none, (.fields #[]), #[]⟩
noncomputable def oA38 : Obj := ⟨.type "tuple", none, (.seq #[.str ⟨#[97]⟩ 228, .str ⟨#[98]⟩ 229] 0), #[]⟩
noncomputable def oA39 : Obj := ⟨.type "tuple", none, (.seq #[] 0), #[]⟩
noncomputable def oA40 : Obj := ⟨.none, none, (fnD 7 fun args body scope => { name := ⟨#[102, 108, 111, 111, 114, 100, 105, 118]⟩, qualname := ⟨#[102, 108, 111, 111, 114, 100, 105, 118]⟩, params := args, body := .stmts body, scope := scope, globals := 0, closure := [], defaults := .none, kwdefaults := .none, doc := .none, pyModule := .none, annotations := none, code := .none, closureTuple := .none, builtins := 0 }), #[]⟩
noncomputable def oA41 : Obj := ⟨.type "code", none, (.fields #[.str ⟨#[102, 108, 111, 111, 114, 100, 105, 118]⟩ 225, .str ⟨#[102, 108, 111, 111, 114, 100, 105, 118]⟩ 226, .str ⟨#[47, 99, 108, 97, 105, 109, 47, 99, 117, 116, 46, 112, 121]⟩ 227, .int (43) 0, .int (2) 0, .int (0) 0, .int (0) 0, .int (3) 0, .ref 36, .bool true, .int (181) 0, .ref 37, .none, .ref 38, .ref 39, .ref 40, .int (230) 0, .int (43) 0, .str ⟨#[47, 99, 108, 97, 105, 109, 47, 99, 117, 116, 46, 112, 121]⟩ 231]), #[]⟩
noncomputable def oA42 : Obj := ⟨.type "function", none, (fnD 7 fun args body scope => { name := ⟨#[102, 108, 111, 111, 114, 100, 105, 118]⟩, qualname := ⟨#[102, 108, 111, 111, 114, 100, 105, 118]⟩, params := args, body := .stmts body, scope := scope, globals := 3, closure := [], defaults := .none, kwdefaults := .none, doc := .none, pyModule := .str ⟨#[99, 112, 121, 51, 49, 51, 46, 111, 112, 101, 114, 97, 116, 111, 114]⟩ 215, annotations := none, code := .ref 41, closureTuple := .none, builtins := 0 }), #[]⟩
noncomputable def oA43 : Obj := ⟨.type "tuple", none, (.seq #[] 0), #[]⟩
noncomputable def oA44 : Obj := ⟨.none, none, (.fields #[]), #[]⟩
noncomputable def oA45 : Obj := ⟨.type "tuple", none, (.seq #[.str ⟨#[97]⟩ 236, .str ⟨#[98]⟩ 237] 0), #[]⟩
noncomputable def oA46 : Obj := ⟨.type "tuple", none, (.seq #[] 0), #[]⟩
noncomputable def oA47 : Obj := ⟨.none, none, (fnD 8 fun args body scope => { name := ⟨#[108, 115, 104, 105, 102, 116]⟩, qualname := ⟨#[108, 115, 104, 105, 102, 116]⟩, params := args, body := .stmts body, scope := scope, globals := 0, closure := [], defaults := .none, kwdefaults := .none, doc := .none, pyModule := .none, annotations := none, code := .none, closureTuple := .none, builtins := 0 }), #[]⟩
noncomputable def oA48 : Obj := ⟨.type "code", none, (.fields #[.str ⟨#[108, 115, 104, 105, 102, 116]⟩ 233, .str ⟨#[108, 115, 104, 105, 102, 116]⟩ 234, .str ⟨#[47, 99, 108, 97, 105, 109, 47, 99, 117, 116, 46, 112, 121]⟩ 235, .int (45) 0, .int (2) 0, .int (0) 0, .int (0) 0, .int (3) 0, .ref 43, .bool true, .int (181) 0, .ref 44, .none, .ref 45, .ref 46, .ref 47, .int (238) 0, .int (45) 0, .str ⟨#[47, 99, 108, 97, 105, 109, 47, 99, 117, 116, 46, 112, 121]⟩ 239]), #[]⟩
noncomputable def oA49 : Obj := ⟨.type "function", none, (fnD 8 fun args body scope => { name := ⟨#[108, 115, 104, 105, 102, 116]⟩, qualname := ⟨#[108, 115, 104, 105, 102, 116]⟩, params := args, body := .stmts body, scope := scope, globals := 3, closure := [], defaults := .none, kwdefaults := .none, doc := .none, pyModule := .str ⟨#[99, 112, 121, 51, 49, 51, 46, 111, 112, 101, 114, 97, 116, 111, 114]⟩ 215, annotations := none, code := .ref 48, closureTuple := .none, builtins := 0 }), #[]⟩
noncomputable def oA50 : Obj := ⟨.type "tuple", none, (.seq #[] 0), #[]⟩
noncomputable def oA51 : Obj := ⟨.none, none, (.fields #[]), #[]⟩
noncomputable def oA52 : Obj := ⟨.type "tuple", none, (.seq #[.str ⟨#[97]⟩ 244, .str ⟨#[98]⟩ 245] 0), #[]⟩
noncomputable def oA53 : Obj := ⟨.type "tuple", none, (.seq #[] 0), #[]⟩
noncomputable def oA54 : Obj := ⟨.none, none, (fnD 9 fun args body scope => { name := ⟨#[109, 111, 100]⟩, qualname := ⟨#[109, 111, 100]⟩, params := args, body := .stmts body, scope := scope, globals := 0, closure := [], defaults := .none, kwdefaults := .none, doc := .none, pyModule := .none, annotations := none, code := .none, closureTuple := .none, builtins := 0 }), #[]⟩
noncomputable def oA55 : Obj := ⟨.type "code", none, (.fields #[.str ⟨#[109, 111, 100]⟩ 241, .str ⟨#[109, 111, 100]⟩ 242, .str ⟨#[47, 99, 108, 97, 105, 109, 47, 99, 117, 116, 46, 112, 121]⟩ 243, .int (47) 0, .int (2) 0, .int (0) 0, .int (0) 0, .int (3) 0, .ref 50, .bool true, .int (181) 0, .ref 51, .none, .ref 52, .ref 53, .ref 54, .int (246) 0, .int (47) 0, .str ⟨#[47, 99, 108, 97, 105, 109, 47, 99, 117, 116, 46, 112, 121]⟩ 247]), #[]⟩
noncomputable def oA56 : Obj := ⟨.type "function", none, (fnD 9 fun args body scope => { name := ⟨#[109, 111, 100]⟩, qualname := ⟨#[109, 111, 100]⟩, params := args, body := .stmts body, scope := scope, globals := 3, closure := [], defaults := .none, kwdefaults := .none, doc := .none, pyModule := .str ⟨#[99, 112, 121, 51, 49, 51, 46, 111, 112, 101, 114, 97, 116, 111, 114]⟩ 215, annotations := none, code := .ref 55, closureTuple := .none, builtins := 0 }), #[]⟩
noncomputable def oA57 : Obj := ⟨.type "tuple", none, (.seq #[] 0), #[]⟩
noncomputable def oA58 : Obj := ⟨.none, none, (.fields #[]), #[]⟩
noncomputable def oA59 : Obj := ⟨.type "tuple", none, (.seq #[.str ⟨#[97]⟩ 252, .str ⟨#[98]⟩ 253] 0), #[]⟩
noncomputable def oA60 : Obj := ⟨.type "tuple", none, (.seq #[] 0), #[]⟩
noncomputable def oA61 : Obj := ⟨.none, none, (fnD 10 fun args body scope => { name := ⟨#[109, 117, 108]⟩, qualname := ⟨#[109, 117, 108]⟩, params := args, body := .stmts body, scope := scope, globals := 0, closure := [], defaults := .none, kwdefaults := .none, doc := .none, pyModule := .none, annotations := none, code := .none, closureTuple := .none, builtins := 0 }), #[]⟩
noncomputable def oA62 : Obj := ⟨.type "code", none, (.fields #[.str ⟨#[109, 117, 108]⟩ 249, .str ⟨#[109, 117, 108]⟩ 250, .str ⟨#[47, 99, 108, 97, 105, 109, 47, 99, 117, 116, 46, 112, 121]⟩ 251, .int (49) 0, .int (2) 0, .int (0) 0, .int (0) 0, .int (3) 0, .ref 57, .bool true, .int (181) 0, .ref 58, .none, .ref 59, .ref 60, .ref 61, .int (254) 0, .int (49) 0, .str ⟨#[47, 99, 108, 97, 105, 109, 47, 99, 117, 116, 46, 112, 121]⟩ 255]), #[]⟩
noncomputable def oA63 : Obj := ⟨.type "function", none, (fnD 10 fun args body scope => { name := ⟨#[109, 117, 108]⟩, qualname := ⟨#[109, 117, 108]⟩, params := args, body := .stmts body, scope := scope, globals := 3, closure := [], defaults := .none, kwdefaults := .none, doc := .none, pyModule := .str ⟨#[99, 112, 121, 51, 49, 51, 46, 111, 112, 101, 114, 97, 116, 111, 114]⟩ 215, annotations := none, code := .ref 62, closureTuple := .none, builtins := 0 }), #[]⟩
noncomputable def oA64 : Obj := ⟨.type "tuple", none, (.seq #[] 0), #[]⟩
noncomputable def oA65 : Obj := ⟨.none, none, (.fields #[]), #[]⟩
noncomputable def oA66 : Obj := ⟨.type "tuple", none, (.seq #[.str ⟨#[97]⟩ 260, .str ⟨#[98]⟩ 261] 0), #[]⟩
noncomputable def oA67 : Obj := ⟨.type "tuple", none, (.seq #[] 0), #[]⟩
noncomputable def oA68 : Obj := ⟨.none, none, (fnD 11 fun args body scope => { name := ⟨#[115, 117, 98]⟩, qualname := ⟨#[115, 117, 98]⟩, params := args, body := .stmts body, scope := scope, globals := 0, closure := [], defaults := .none, kwdefaults := .none, doc := .none, pyModule := .none, annotations := none, code := .none, closureTuple := .none, builtins := 0 }), #[]⟩
noncomputable def oA69 : Obj := ⟨.type "code", none, (.fields #[.str ⟨#[115, 117, 98]⟩ 257, .str ⟨#[115, 117, 98]⟩ 258, .str ⟨#[47, 99, 108, 97, 105, 109, 47, 99, 117, 116, 46, 112, 121]⟩ 259, .int (51) 0, .int (2) 0, .int (0) 0, .int (0) 0, .int (3) 0, .ref 64, .bool true, .int (181) 0, .ref 65, .none, .ref 66, .ref 67, .ref 68, .int (262) 0, .int (51) 0, .str ⟨#[47, 99, 108, 97, 105, 109, 47, 99, 117, 116, 46, 112, 121]⟩ 263]), #[]⟩
noncomputable def oA70 : Obj := ⟨.type "function", none, (fnD 11 fun args body scope => { name := ⟨#[115, 117, 98]⟩, qualname := ⟨#[115, 117, 98]⟩, params := args, body := .stmts body, scope := scope, globals := 3, closure := [], defaults := .none, kwdefaults := .none, doc := .none, pyModule := .str ⟨#[99, 112, 121, 51, 49, 51, 46, 111, 112, 101, 114, 97, 116, 111, 114]⟩ 215, annotations := none, code := .ref 69, closureTuple := .none, builtins := 0 }), #[]⟩
noncomputable def lA (P : Params) : List Obj := [boot_o_0 P, boot_o_1 P, boot_o_2 P, oA3 P, boot_o_4 P, boot_o_5 P, boot_o_6 P, boot_o_7 P, boot_o_8 P, boot_o_9 P, boot_o_10 P, opre11, oA12, opre13, opre14, oA15, oA16, oA17, oA18, oA19, oA20, oA21, oA22, oA23, oA24, oA25, oA26, oA27, oA28, oA29, oA30, oA31, oA32, oA33, oA34, oA35, oA36, oA37, oA38, oA39, oA40, oA41, oA42, oA43, oA44, oA45, oA46, oA47, oA48, oA49, oA50, oA51, oA52, oA53, oA54, oA55, oA56, oA57, oA58, oA59, oA60, oA61, oA62, oA63, oA64, oA65, oA66, oA67, oA68, oA69, oA70]
noncomputable def oB3 (P : Params) : Obj := ⟨.type "dict", none, (.dict #[⟨PyData.keyHash P ⟨#[95, 95, 110, 97, 109, 101, 95, 95]⟩, .str ⟨#[95, 95, 110, 97, 109, 101, 95, 95]⟩ 165, .str ⟨#[99, 112, 121, 51, 49, 51, 46, 115, 116, 114, 105, 110, 103, 112, 114, 101, 112]⟩ 265⟩, ⟨PyData.keyHash P ⟨#[95, 95, 100, 111, 99, 95, 95]⟩, .str ⟨#[95, 95, 100, 111, 99, 95, 95]⟩ 166, .none⟩, ⟨PyData.keyHash P ⟨#[95, 95, 112, 97, 99, 107, 97, 103, 101, 95, 95]⟩, .str ⟨#[95, 95, 112, 97, 99, 107, 97, 103, 101, 95, 95]⟩ 167, .none⟩, ⟨PyData.keyHash P ⟨#[95, 95, 108, 111, 97, 100, 101, 114, 95, 95]⟩, .str ⟨#[95, 95, 108, 111, 97, 100, 101, 114, 95, 95]⟩ 168, .builtin "__main__.__loader__#opaque"⟩, ⟨PyData.keyHash P ⟨#[95, 95, 115, 112, 101, 99, 95, 95]⟩, .str ⟨#[95, 95, 115, 112, 101, 99, 95, 95]⟩ 169, .none⟩, ⟨PyData.keyHash P ⟨#[95, 95, 97, 110, 110, 111, 116, 97, 116, 105, 111, 110, 115, 95, 95]⟩, .str ⟨#[95, 95, 97, 110, 110, 111, 116, 97, 116, 105, 111, 110, 115, 95, 95]⟩ 170, .ref 6⟩, ⟨PyData.keyHash P ⟨#[95, 95, 98, 117, 105, 108, 116, 105, 110, 115, 95, 95]⟩, .str ⟨#[95, 95, 98, 117, 105, 108, 116, 105, 110, 115, 95, 95]⟩ 171, .ref 4⟩, ⟨PyData.keyHash P ⟨#[95, 95, 102, 105, 108, 101, 95, 95]⟩, .str ⟨#[95, 95, 102, 105, 108, 101, 95, 95]⟩ 173, .str ⟨#[47, 99, 108, 97, 105, 109, 47, 99, 117, 116, 46, 112, 121]⟩ 172⟩, ⟨PyData.keyHash P ⟨#[95, 95, 99, 97, 99, 104, 101, 100, 95, 95]⟩, .str ⟨#[95, 95, 99, 97, 99, 104, 101, 100, 95, 95]⟩ 174, .none⟩, ⟨PyData.keyHash P ⟨#[69, 76, 76, 73, 80, 83, 73, 83, 95, 77, 65, 82, 75, 69, 82]⟩, .str ⟨#[69, 76, 76, 73, 80, 83, 73, 83, 95, 77, 65, 82, 75, 69, 82]⟩ 190, .str ⟨#[46, 46, 46]⟩ 189⟩, ⟨PyData.keyHash P ⟨#[95, 101, 108, 108, 105, 112, 115, 105, 115, 95, 109, 97, 116, 99, 104]⟩, .str ⟨#[95, 101, 108, 108, 105, 112, 115, 105, 115, 95, 109, 97, 116, 99, 104]⟩ 202, .ref 21⟩, ⟨PyData.keyHash P ⟨#[73, 110, 116, 50, 65, 80]⟩, .str ⟨#[73, 110, 116, 50, 65, 80]⟩ 214, .ref 28⟩, ⟨PyData.keyHash P ⟨#[97, 100, 100]⟩, .str ⟨#[97, 100, 100]⟩ 224, .ref 35⟩, ⟨PyData.keyHash P ⟨#[102, 108, 111, 111, 114, 100, 105, 118]⟩, .str ⟨#[102, 108, 111, 111, 114, 100, 105, 118]⟩ 232, .ref 42⟩, ⟨PyData.keyHash P ⟨#[108, 115, 104, 105, 102, 116]⟩, .str ⟨#[108, 115, 104, 105, 102, 116]⟩ 240, .ref 49⟩, ⟨PyData.keyHash P ⟨#[109, 111, 100]⟩, .str ⟨#[109, 111, 100]⟩ 248, .ref 56⟩, ⟨PyData.keyHash P ⟨#[109, 117, 108]⟩, .str ⟨#[109, 117, 108]⟩ 256, .ref 63⟩, ⟨PyData.keyHash P ⟨#[115, 117, 98]⟩, .str ⟨#[115, 117, 98]⟩ 264, .ref 70⟩, ⟨PyData.keyHash P ⟨#[98, 49, 95, 115, 101, 116]⟩, .str ⟨#[98, 49, 95, 115, 101, 116]⟩ 326, .ref 78⟩] 19), #[]⟩
noncomputable def oB71 : Obj := ⟨.type "list", none, (.seq #[.int (173) 267, .int (847) 268, .int (6150) 269, .int (6155) 270, .int (6156) 271, .int (6157) 272, .int (8203) 273, .int (8204) 274, .int (8205) 275, .int (8288) 276, .int (65279) 277] 0), #[]⟩
noncomputable def oB72 : Obj := ⟨.type "range", none, (.fields #[.int (65024) 278, .int (65040) 279, .int (1) 280]), #[]⟩
noncomputable def oB73 : Obj := ⟨.type "list", none, (.seq #[.int (65024) 283, .int (65025) 284, .int (65026) 285, .int (65027) 286, .int (65028) 287, .int (65029) 288, .int (65030) 289, .int (65031) 290, .int (65032) 291, .int (65033) 292, .int (65034) 293, .int (65035) 294, .int (65036) 295, .int (65037) 296, .int (65038) 297, .int (65039) 298] 18), #[]⟩
noncomputable def oB74 : Obj := ⟨.type "range_iterator", none, (.fields #[.int (65040) 0, .int (0) 0, .int (1) 0]), #[]⟩
noncomputable def oB75 : Obj := ⟨.type "tuple", none, (.seq #[] 0), #[]⟩
noncomputable def oB76 : Obj := ⟨.type "StopIteration", none, (.fields #[.ref 75, .none, .none, .none, .bool false, .none]), #[]⟩
noncomputable def oB77 : Obj := ⟨.type "list", none, (.seq #[.int (173) 267, .int (847) 268, .int (6150) 269, .int (6155) 270, .int (6156) 271, .int (6157) 272, .int (8203) 273, .int (8204) 274, .int (8205) 275, .int (8288) 276, .int (65279) 277, .int (65024) 283, .int (65025) 284, .int (65026) 285, .int (65027) 286, .int (65028) 287, .int (65029) 288, .int (65030) 289, .int (65031) 290, .int (65032) 291, .int (65033) 292, .int (65034) 293, .int (65035) 294, .int (65036) 295, .int (65037) 296, .int (65038) 297, .int (65039) 298] 0), #[]⟩
noncomputable def oB78 (b : Bool) : Obj := ⟨.type "set", none, (.set #[(65024, .int (65024) 283), (65025, .int (65025) 284), (65026, .int (65026) 285), (65027, .int (65027) 286), (65028, .int (65028) 287), (65029, .int (65029) 288), (6150, .int (6150) 269), (65030, .int (65030) 289), (65031, .int (65031) 290), (65032, .int (65032) 291), (65033, .int (65033) 292), (6155, .int (6155) 270), (6156, .int (6156) 271), (6157, .int (6157) 272), (8203, .int (8203) 273), (8204, .int (8204) 274), (8205, .int (8205) 275), (65034, .int (65034) 293), (65035, .int (65035) 294), (65036, .int (65036) 295), (65037, .int (65037) 296), (65038, .int (65038) 297), (65039, .int (65039) 298), (173, .int (173) 267), (847, .int (847) 268), (8288, .int (8288) 276), (65279, .int (65279) 277)] 29 ⟨127, #[0, 1, 2, 3, 4, 5, 6, 7, 8, 9, 10, 11, 12, 13, 14, 15, 16, 17, 18, 19, 20, 21, 22, 45, 79, 96, 127], #[], 0, b, 2, true⟩), #[]⟩
noncomputable def oB79 : Obj := ⟨.type "list_iterator", none, (.fields #[.none, .int (27) 0]), #[]⟩
noncomputable def oB80 : Obj := ⟨.type "tuple", none, (.seq #[] 0), #[]⟩
noncomputable def oB81 : Obj := ⟨.type "StopIteration", none, (.fields #[.ref 80, .none, .none, .none, .bool false, .none]), #[]⟩
noncomputable def lB (P : Params) : List Obj := [boot_o_0 P, boot_o_1 P, boot_o_2 P, oB3 P, boot_o_4 P, boot_o_5 P, boot_o_6 P, boot_o_7 P, boot_o_8 P, boot_o_9 P, boot_o_10 P, opre11, oA12, opre13, opre14, oA15, oA16, oA17, oA18, oA19, oA20, oA21, oA22, oA23, oA24, oA25, oA26, oA27, oA28, oA29, oA30, oA31, oA32, oA33, oA34, oA35, oA36, oA37, oA38, oA39, oA40, oA41, oA42, oA43, oA44, oA45, oA46, oA47, oA48, oA49, oA50, oA51, oA52, oA53, oA54, oA55, oA56, oA57, oA58, oA59, oA60, oA61, oA62, oA63, oA64, oA65, oA66, oA67, oA68, oA69, oA70, oB71, oB72, oB73, oB74, oB75, oB76, oB77, oB78 (!P.followText "set-order"), oB79, oB80, oB81]
noncomputable def oC3 (P : Params) : Obj := ⟨.type "dict", none, (.dict #[⟨PyData.keyHash P ⟨#[95, 95, 110, 97, 109, 101, 95, 95]⟩, .str ⟨#[95, 95, 110, 97, 109, 101, 95, 95]⟩ 165, .str ⟨#[99, 112, 121, 51, 49, 51, 46, 115, 116, 114, 105, 110, 103, 112, 114, 101, 112]⟩ 265⟩, ⟨PyData.keyHash P ⟨#[95, 95, 100, 111, 99, 95, 95]⟩, .str ⟨#[95, 95, 100, 111, 99, 95, 95]⟩ 166, .none⟩, ⟨PyData.keyHash P ⟨#[95, 95, 112, 97, 99, 107, 97, 103, 101, 95, 95]⟩, .str ⟨#[95, 95, 112, 97, 99, 107, 97, 103, 101, 95, 95]⟩ 167, .none⟩, ⟨PyData.keyHash P ⟨#[95, 95, 108, 111, 97, 100, 101, 114, 95, 95]⟩, .str ⟨#[95, 95, 108, 111, 97, 100, 101, 114, 95, 95]⟩ 168, .builtin "__main__.__loader__#opaque"⟩, ⟨PyData.keyHash P ⟨#[95, 95, 115, 112, 101, 99, 95, 95]⟩, .str ⟨#[95, 95, 115, 112, 101, 99, 95, 95]⟩ 169, .none⟩, ⟨PyData.keyHash P ⟨#[95, 95, 97, 110, 110, 111, 116, 97, 116, 105, 111, 110, 115, 95, 95]⟩, .str ⟨#[95, 95, 97, 110, 110, 111, 116, 97, 116, 105, 111, 110, 115, 95, 95]⟩ 170, .ref 6⟩, ⟨PyData.keyHash P ⟨#[95, 95, 98, 117, 105, 108, 116, 105, 110, 115, 95, 95]⟩, .str ⟨#[95, 95, 98, 117, 105, 108, 116, 105, 110, 115, 95, 95]⟩ 171, .ref 4⟩, ⟨PyData.keyHash P ⟨#[95, 95, 102, 105, 108, 101, 95, 95]⟩, .str ⟨#[95, 95, 102, 105, 108, 101, 95, 95]⟩ 173, .str ⟨#[47, 99, 108, 97, 105, 109, 47, 99, 117, 116, 46, 112, 121]⟩ 172⟩, ⟨PyData.keyHash P ⟨#[95, 95, 99, 97, 99, 104, 101, 100, 95, 95]⟩, .str ⟨#[95, 95, 99, 97, 99, 104, 101, 100, 95, 95]⟩ 174, .none⟩, ⟨PyData.keyHash P ⟨#[69, 76, 76, 73, 80, 83, 73, 83, 95, 77, 65, 82, 75, 69, 82]⟩, .str ⟨#[69, 76, 76, 73, 80, 83, 73, 83, 95, 77, 65, 82, 75, 69, 82]⟩ 190, .str ⟨#[46, 46, 46]⟩ 189⟩, ⟨PyData.keyHash P ⟨#[95, 101, 108, 108, 105, 112, 115, 105, 115, 95, 109, 97, 116, 99, 104]⟩, .str ⟨#[95, 101, 108, 108, 105, 112, 115, 105, 115, 95, 109, 97, 116, 99, 104]⟩ 202, .ref 21⟩, ⟨PyData.keyHash P ⟨#[73, 110, 116, 50, 65, 80]⟩, .str ⟨#[73, 110, 116, 50, 65, 80]⟩ 214, .ref 28⟩, ⟨PyData.keyHash P ⟨#[97, 100, 100]⟩, .str ⟨#[97, 100, 100]⟩ 224, .ref 35⟩, ⟨PyData.keyHash P ⟨#[102, 108, 111, 111, 114, 100, 105, 118]⟩, .str ⟨#[102, 108, 111, 111, 114, 100, 105, 118]⟩ 232, .ref 42⟩, ⟨PyData.keyHash P ⟨#[108, 115, 104, 105, 102, 116]⟩, .str ⟨#[108, 115, 104, 105, 102, 116]⟩ 240, .ref 49⟩, ⟨PyData.keyHash P ⟨#[109, 111, 100]⟩, .str ⟨#[109, 111, 100]⟩ 248, .ref 56⟩, ⟨PyData.keyHash P ⟨#[109, 117, 108]⟩, .str ⟨#[109, 117, 108]⟩ 256, .ref 63⟩, ⟨PyData.keyHash P ⟨#[115, 117, 98]⟩, .str ⟨#[115, 117, 98]⟩ 264, .ref 70⟩, ⟨PyData.keyHash P ⟨#[98, 49, 95, 115, 101, 116]⟩, .str ⟨#[98, 49, 95, 115, 101, 116]⟩ 326, .ref 78⟩, ⟨PyData.keyHash P ⟨#[105, 110, 95, 116, 97, 98, 108, 101, 95, 98, 49]⟩, .str ⟨#[105, 110, 95, 116, 97, 98, 108, 101, 95, 98, 49]⟩ 333, .ref 88⟩] 20), #[]⟩
noncomputable def oC12 : Obj := ⟨.none, none, (.fields #[.int (3) 0, .int (0) 0, .ref 20, .int (32) 0, .int (0) 0, .ref 27, .int (41) 0, .int (0) 0, .ref 34, .int (43) 0, .int (0) 0, .ref 41, .int (45) 0, .int (0) 0, .ref 48, .int (47) 0, .int (0) 0, .ref 55, .int (49) 0, .int (0) 0, .ref 62, .int (51) 0, .int (0) 0, .ref 69, .int (55) 0, .int (0) 0, .ref 87]), #[]⟩
noncomputable def oC82 : Obj := ⟨.type "tuple", none, (.seq #[] 0), #[]⟩
noncomputable def oC83 : Obj := ⟨.none, none, (.fields #[]), #[]⟩
noncomputable def oC84 : Obj := ⟨.type "tuple", none, (.seq #[.str ⟨#[99, 111, 100, 101]⟩ 330] 0), #[]⟩
noncomputable def oC85 : Obj := ⟨.type "tuple", none, (.seq #[] 0), #[]⟩
noncomputable def oC86 : Obj := ⟨.none, none, (fnD 14 fun args body scope => { name := ⟨#[105, 110, 95, 116, 97, 98, 108, 101, 95, 98, 49]⟩, qualname := ⟨#[105, 110, 95, 116, 97, 98, 108, 101, 95, 98, 49]⟩, params := args, body := .stmts body, scope := scope, globals := 0, closure := [], defaults := .none, kwdefaults := .none, doc := .none, pyModule := .none, annotations := none, code := .none, closureTuple := .none, builtins := 0 }), #[]⟩
noncomputable def oC87 : Obj := ⟨.type "code", none, (.fields #[.str ⟨#[105, 110, 95, 116, 97, 98, 108, 101, 95, 98, 49]⟩ 327, .str ⟨#[105, 110, 95, 116, 97, 98, 108, 101, 95, 98, 49]⟩ 328, .str ⟨#[47, 99, 108, 97, 105, 109, 47, 99, 117, 116, 46, 112, 121]⟩ 329, .int (55) 0, .int (1) 0, .int (0) 0, .int (0) 0, .int (3) 0, .ref 82, .bool true, .int (181) 0, .ref 83, .none, .ref 84, .ref 85, .ref 86, .int (331) 0, .int (55) 0, .str ⟨#[47, 99, 108, 97, 105, 109, 47, 99, 117, 116, 46, 112, 121]⟩ 332]), #[]⟩
noncomputable def oC88 : Obj := ⟨.type "function", none, (fnD 14 fun args body scope => { name := ⟨#[105, 110, 95, 116, 97, 98, 108, 101, 95, 98, 49]⟩, qualname := ⟨#[105, 110, 95, 116, 97, 98, 108, 101, 95, 98, 49]⟩, params := args, body := .stmts body, scope := scope, globals := 3, closure := [], defaults := .none, kwdefaults := .none, doc := .none, pyModule := .str ⟨#[99, 112, 121, 51, 49, 51, 46, 115, 116, 114, 105, 110, 103, 112, 114, 101, 112]⟩ 265, annotations := none, code := .ref 87, closureTuple := .none, builtins := 0 }), #[]⟩
noncomputable def lC (P : Params) : List Obj := [boot_o_0 P, boot_o_1 P, boot_o_2 P, oC3 P, boot_o_4 P, boot_o_5 P, boot_o_6 P, boot_o_7 P, boot_o_8 P, boot_o_9 P, boot_o_10 P, opre11, oC12, opre13, opre14, oA15, oA16, oA17, oA18, oA19, oA20, oA21, oA22, oA23, oA24, oA25, oA26, oA27, oA28, oA29, oA30, oA31, oA32, oA33, oA34, oA35, oA36, oA37, oA38, oA39, oA40, oA41, oA42, oA43, oA44, oA45, oA46, oA47, oA48, oA49, oA50, oA51, oA52, oA53, oA54, oA55, oA56, oA57, oA58, oA59, oA60, oA61, oA62, oA63, oA64, oA65, oA66, oA67, oA68, oA69, oA70, oB71, oB72, oB73, oB74, oB75, oB76, oB77, oB78 (!P.followText "set-order"), oB79, oB80, oB81, oC82, oC83, oC84, oC85, oC86, oC87, oC88]
noncomputable def oD3 (P : Params) : Obj := ⟨.type "dict", none, (.dict #[⟨PyData.keyHash P ⟨#[95, 95, 110, 97, 109, 101, 95, 95]⟩, .str ⟨#[95, 95, 110, 97, 109, 101, 95, 95]⟩ 165, .str ⟨#[99, 112, 121, 51, 49, 51, 46, 115, 116, 114, 105, 110, 103, 112, 114, 101, 112]⟩ 265⟩, ⟨PyData.keyHash P ⟨#[95, 95, 100, 111, 99, 95, 95]⟩, .str ⟨#[95, 95, 100, 111, 99, 95, 95]⟩ 166, .none⟩, ⟨PyData.keyHash P ⟨#[95, 95, 112, 97, 99, 107, 97, 103, 101, 95, 95]⟩, .str ⟨#[95, 95, 112, 97, 99, 107, 97, 103, 101, 95, 95]⟩ 167, .none⟩, ⟨PyData.keyHash P ⟨#[95, 95, 108, 111, 97, 100, 101, 114, 95, 95]⟩, .str ⟨#[95, 95, 108, 111, 97, 100, 101, 114, 95, 95]⟩ 168, .builtin "__main__.__loader__#opaque"⟩, ⟨PyData.keyHash P ⟨#[95, 95, 115, 112, 101, 99, 95, 95]⟩, .str ⟨#[95, 95, 115, 112, 101, 99, 95, 95]⟩ 169, .none⟩, ⟨PyData.keyHash P ⟨#[95, 95, 97, 110, 110, 111, 116, 97, 116, 105, 111, 110, 115, 95, 95]⟩, .str ⟨#[95, 95, 97, 110, 110, 111, 116, 97, 116, 105, 111, 110, 115, 95, 95]⟩ 170, .ref 6⟩, ⟨PyData.keyHash P ⟨#[95, 95, 98, 117, 105, 108, 116, 105, 110, 115, 95, 95]⟩, .str ⟨#[95, 95, 98, 117, 105, 108, 116, 105, 110, 115, 95, 95]⟩ 171, .ref 4⟩, ⟨PyData.keyHash P ⟨#[95, 95, 102, 105, 108, 101, 95, 95]⟩, .str ⟨#[95, 95, 102, 105, 108, 101, 95, 95]⟩ 173, .str ⟨#[47, 99, 108, 97, 105, 109, 47, 99, 117, 116, 46, 112, 121]⟩ 172⟩, ⟨PyData.keyHash P ⟨#[95, 95, 99, 97, 99, 104, 101, 100, 95, 95]⟩, .str ⟨#[95, 95, 99, 97, 99, 104, 101, 100, 95, 95]⟩ 174, .none⟩, ⟨PyData.keyHash P ⟨#[69, 76, 76, 73, 80, 83, 73, 83, 95, 77, 65, 82, 75, 69, 82]⟩, .str ⟨#[69, 76, 76, 73, 80, 83, 73, 83, 95, 77, 65, 82, 75, 69, 82]⟩ 190, .str ⟨#[46, 46, 46]⟩ 189⟩, ⟨PyData.keyHash P ⟨#[95, 101, 108, 108, 105, 112, 115, 105, 115, 95, 109, 97, 116, 99, 104]⟩, .str ⟨#[95, 101, 108, 108, 105, 112, 115, 105, 115, 95, 109, 97, 116, 99, 104]⟩ 202, .ref 21⟩, ⟨PyData.keyHash P ⟨#[73, 110, 116, 50, 65, 80]⟩, .str ⟨#[73, 110, 116, 50, 65, 80]⟩ 214, .ref 28⟩, ⟨PyData.keyHash P ⟨#[97, 100, 100]⟩, .str ⟨#[97, 100, 100]⟩ 224, .ref 35⟩, ⟨PyData.keyHash P ⟨#[102, 108, 111, 111, 114, 100, 105, 118]⟩, .str ⟨#[102, 108, 111, 111, 114, 100, 105, 118]⟩ 232, .ref 42⟩, ⟨PyData.keyHash P ⟨#[108, 115, 104, 105, 102, 116]⟩, .str ⟨#[108, 115, 104, 105, 102, 116]⟩ 240, .ref 49⟩, ⟨PyData.keyHash P ⟨#[109, 111, 100]⟩, .str ⟨#[109, 111, 100]⟩ 248, .ref 56⟩, ⟨PyData.keyHash P ⟨#[109, 117, 108]⟩, .str ⟨#[109, 117, 108]⟩ 256, .ref 63⟩, ⟨PyData.keyHash P ⟨#[115, 117, 98]⟩, .str ⟨#[115, 117, 98]⟩ 264, .ref 70⟩, ⟨PyData.keyHash P ⟨#[98, 49, 95, 115, 101, 116]⟩, .str ⟨#[98, 49, 95, 115, 101, 116]⟩ 326, .ref 78⟩, ⟨PyData.keyHash P ⟨#[105, 110, 95, 116, 97, 98, 108, 101, 95, 98, 49]⟩, .str ⟨#[105, 110, 95, 116, 97, 98, 108, 101, 95, 98, 49]⟩ 333, .ref 88⟩, ⟨PyData.keyHash P ⟨#[98, 51, 95, 101, 120, 99, 101, 112, 116, 105, 111, 110, 115]⟩, .str ⟨#[98, 51, 95, 101, 120, 99, 101, 112, 116, 105, 111, 110, 115]⟩ 2284, .ref 89⟩] 21), #[]⟩
noncomputable def lD (P : Params) : List Obj := [boot_o_0 P, boot_o_1 P, boot_o_2 P, oD3 P, boot_o_4 P, boot_o_5 P, boot_o_6 P, boot_o_7 P, boot_o_8 P, boot_o_9 P, boot_o_10 P, opre11, oC12, opre13, opre14, oA15, oA16, oA17, oA18, oA19, oA20, oA21, oA22, oA23, oA24, oA25, oA26, oA27, oA28, oA29, oA30, oA31, oA32, oA33, oA34, oA35, oA36, oA37, oA38, oA39, oA40, oA41, oA42, oA43, oA44, oA45, oA46, oA47, oA48, oA49, oA50, oA51, oA52, oA53, oA54, oA55, oA56, oA57, oA58, oA59, oA60, oA61, oA62, oA63, oA64, oA65, oA66, oA67, oA68, oA69, oA70, oB71, oB72, oB73, oB74, oB75, oB76, oB77, oB78 (!P.followText "set-order"), oB79, oB80, oB81, oC82, oC83, oC84, oC85, oC86, oC87, oC88]
noncomputable def oE3 (P : Params) : Obj := ⟨.type "dict", none, (.dict #[⟨PyData.keyHash P ⟨#[95, 95, 110, 97, 109, 101, 95, 95]⟩, .str ⟨#[95, 95, 110, 97, 109, 101, 95, 95]⟩ 165, .str ⟨#[108, 97, 119, 95, 119, 111, 48, 48, 53, 54, 95, 48, 49]⟩ 2293⟩, ⟨PyData.keyHash P ⟨#[95, 95, 100, 111, 99, 95, 95]⟩, .str ⟨#[95, 95, 100, 111, 99, 95, 95]⟩ 166, .none⟩, ⟨PyData.keyHash P ⟨#[95, 95, 112, 97, 99, 107, 97, 103, 101, 95, 95]⟩, .str ⟨#[95, 95, 112, 97, 99, 107, 97, 103, 101, 95, 95]⟩ 167, .none⟩, ⟨PyData.keyHash P ⟨#[95, 95, 108, 111, 97, 100, 101, 114, 95, 95]⟩, .str ⟨#[95, 95, 108, 111, 97, 100, 101, 114, 95, 95]⟩ 168, .builtin "__main__.__loader__#opaque"⟩, ⟨PyData.keyHash P ⟨#[95, 95, 115, 112, 101, 99, 95, 95]⟩, .str ⟨#[95, 95, 115, 112, 101, 99, 95, 95]⟩ 169, .none⟩, ⟨PyData.keyHash P ⟨#[95, 95, 97, 110, 110, 111, 116, 97, 116, 105, 111, 110, 115, 95, 95]⟩, .str ⟨#[95, 95, 97, 110, 110, 111, 116, 97, 116, 105, 111, 110, 115, 95, 95]⟩ 170, .ref 6⟩, ⟨PyData.keyHash P ⟨#[95, 95, 98, 117, 105, 108, 116, 105, 110, 115, 95, 95]⟩, .str ⟨#[95, 95, 98, 117, 105, 108, 116, 105, 110, 115, 95, 95]⟩ 171, .ref 4⟩, ⟨PyData.keyHash P ⟨#[95, 95, 102, 105, 108, 101, 95, 95]⟩, .str ⟨#[95, 95, 102, 105, 108, 101, 95, 95]⟩ 173, .str ⟨#[47, 99, 108, 97, 105, 109, 47, 99, 117, 116, 46, 112, 121]⟩ 172⟩, ⟨PyData.keyHash P ⟨#[95, 95, 99, 97, 99, 104, 101, 100, 95, 95]⟩, .str ⟨#[95, 95, 99, 97, 99, 104, 101, 100, 95, 95]⟩ 174, .none⟩, ⟨PyData.keyHash P ⟨#[69, 76, 76, 73, 80, 83, 73, 83, 95, 77, 65, 82, 75, 69, 82]⟩, .str ⟨#[69, 76, 76, 73, 80, 83, 73, 83, 95, 77, 65, 82, 75, 69, 82]⟩ 190, .str ⟨#[46, 46, 46]⟩ 189⟩, ⟨PyData.keyHash P ⟨#[95, 101, 108, 108, 105, 112, 115, 105, 115, 95, 109, 97, 116, 99, 104]⟩, .str ⟨#[95, 101, 108, 108, 105, 112, 115, 105, 115, 95, 109, 97, 116, 99, 104]⟩ 202, .ref 21⟩, ⟨PyData.keyHash P ⟨#[73, 110, 116, 50, 65, 80]⟩, .str ⟨#[73, 110, 116, 50, 65, 80]⟩ 214, .ref 28⟩, ⟨PyData.keyHash P ⟨#[97, 100, 100]⟩, .str ⟨#[97, 100, 100]⟩ 224, .ref 35⟩, ⟨PyData.keyHash P ⟨#[102, 108, 111, 111, 114, 100, 105, 118]⟩, .str ⟨#[102, 108, 111, 111, 114, 100, 105, 118]⟩ 232, .ref 42⟩, ⟨PyData.keyHash P ⟨#[108, 115, 104, 105, 102, 116]⟩, .str ⟨#[108, 115, 104, 105, 102, 116]⟩ 240, .ref 49⟩, ⟨PyData.keyHash P ⟨#[109, 111, 100]⟩, .str ⟨#[109, 111, 100]⟩ 248, .ref 56⟩, ⟨PyData.keyHash P ⟨#[109, 117, 108]⟩, .str ⟨#[109, 117, 108]⟩ 256, .ref 63⟩, ⟨PyData.keyHash P ⟨#[115, 117, 98]⟩, .str ⟨#[115, 117, 98]⟩ 264, .ref 70⟩, ⟨PyData.keyHash P ⟨#[98, 49, 95, 115, 101, 116]⟩, .str ⟨#[98, 49, 95, 115, 101, 116]⟩ 326, .ref 78⟩, ⟨PyData.keyHash P ⟨#[105, 110, 95, 116, 97, 98, 108, 101, 95, 98, 49]⟩, .str ⟨#[105, 110, 95, 116, 97, 98, 108, 101, 95, 98, 49]⟩ 333, .ref 88⟩, ⟨PyData.keyHash P ⟨#[98, 51, 95, 101, 120, 99, 101, 112, 116, 105, 111, 110, 115]⟩, .str ⟨#[98, 51, 95, 101, 120, 99, 101, 112, 116, 105, 111, 110, 115]⟩ 2284, .ref 89⟩, ⟨PyData.keyHash P ⟨#[109, 97, 112, 95, 116, 97, 98, 108, 101, 95, 98, 51]⟩, .str ⟨#[109, 97, 112, 95, 116, 97, 98, 108, 101, 95, 98, 51]⟩ 2292, .ref 134⟩, ⟨PyData.keyHash P ⟨#[95, 108, 97, 119, 95, 115, 112, 101, 108, 108, 101, 100]⟩, .str ⟨#[95, 108, 97, 119, 95, 115, 112, 101, 108, 108, 101, 100]⟩ 2307, .ref 141⟩, ⟨PyData.keyHash P ⟨#[95, 108, 97, 119, 95, 97, 115, 107, 101, 100]⟩, .str ⟨#[95, 108, 97, 119, 95, 97, 115, 107, 101, 100]⟩ 2322, .ref 148⟩, ⟨PyData.keyHash P ⟨#[95, 108, 97, 119, 95, 97, 108, 105, 107, 101]⟩, .str ⟨#[95, 108, 97, 119, 95, 97, 108, 105, 107, 101]⟩ 2334, .ref 155⟩, ⟨PyData.keyHash P ⟨#[95, 108, 97, 119, 95, 111, 114, 100, 101, 114]⟩, .str ⟨#[95, 108, 97, 119, 95, 111, 114, 100, 101, 114]⟩ 2347, .ref 162⟩, ⟨PyData.keyHash P ⟨#[108, 97, 119]⟩, .str ⟨#[108, 97, 119]⟩ 2353, .ref 167⟩] 27), #[]⟩
noncomputable def oE12 : Obj := ⟨.none, none, (.fields #[.int (3) 0, .int (0) 0, .ref 20, .int (32) 0, .int (0) 0, .ref 27, .int (41) 0, .int (0) 0, .ref 34, .int (43) 0, .int (0) 0, .ref 41, .int (45) 0, .int (0) 0, .ref 48, .int (47) 0, .int (0) 0, .ref 55, .int (49) 0, .int (0) 0, .ref 62, .int (51) 0, .int (0) 0, .ref 69, .int (55) 0, .int (0) 0, .ref 87, .int (58) 0, .int (0) 0, .ref 133, .int (64) 0, .int (0) 0, .ref 140, .int (77) 0, .int (0) 0, .ref 147, .int (94) 0, .int (0) 0, .ref 154, .int (104) 0, .int (0) 0, .ref 161, .int (115) 0, .int (0) 0, .ref 166]), #[]⟩
noncomputable def oE128 : Obj := ⟨.type "tuple", none, (.seq #[] 0), #[]⟩
noncomputable def oE129 : Obj := ⟨.none, none, (.fields #[]), #[]⟩
noncomputable def oE130 : Obj := ⟨.type "tuple", none, (.seq #[.str ⟨#[99, 111, 100, 101]⟩ 2288, .str ⟨#[114]⟩ 2289] 0), #[]⟩
noncomputable def oE131 : Obj := ⟨.type "tuple", none, (.seq #[] 0), #[]⟩
noncomputable def oE132 : Obj := ⟨.none, none, (fnD 16 fun args body scope => { name := ⟨#[109, 97, 112, 95, 116, 97, 98, 108, 101, 95, 98, 51]⟩, qualname := ⟨#[109, 97, 112, 95, 116, 97, 98, 108, 101, 95, 98, 51]⟩, params := args, body := .stmts body, scope := scope, globals := 0, closure := [], defaults := .none, kwdefaults := .none, doc := .none, pyModule := .none, annotations := none, code := .none, closureTuple := .none, builtins := 0 }), #[]⟩
noncomputable def oE133 : Obj := ⟨.type "code", none, (.fields #[.str ⟨#[109, 97, 112, 95, 116, 97, 98, 108, 101, 95, 98, 51]⟩ 2285, .str ⟨#[109, 97, 112, 95, 116, 97, 98, 108, 101, 95, 98, 51]⟩ 2286, .str ⟨#[47, 99, 108, 97, 105, 109, 47, 99, 117, 116, 46, 112, 121]⟩ 2287, .int (58) 0, .int (1) 0, .int (0) 0, .int (0) 0, .int (3) 0, .ref 128, .bool true, .int (181) 0, .ref 129, .none, .ref 130, .ref 131, .ref 132, .int (2290) 0, .int (58) 0, .str ⟨#[47, 99, 108, 97, 105, 109, 47, 99, 117, 116, 46, 112, 121]⟩ 2291]), #[]⟩
noncomputable def oE134 : Obj := ⟨.type "function", none, (fnD 16 fun args body scope => { name := ⟨#[109, 97, 112, 95, 116, 97, 98, 108, 101, 95, 98, 51]⟩, qualname := ⟨#[109, 97, 112, 95, 116, 97, 98, 108, 101, 95, 98, 51]⟩, params := args, body := .stmts body, scope := scope, globals := 3, closure := [], defaults := .none, kwdefaults := .none, doc := .none, pyModule := .str ⟨#[99, 112, 121, 51, 49, 51, 46, 115, 116, 114, 105, 110, 103, 112, 114, 101, 112]⟩ 265, annotations := none, code := .ref 133, closureTuple := .none, builtins := 0 }), #[]⟩
noncomputable def oE135 : Obj := ⟨.type "tuple", none, (.seq #[] 0), #[]⟩
noncomputable def oE136 : Obj := ⟨.none, none, (.fields #[]), #[]⟩
noncomputable def oE137 : Obj := ⟨.type "tuple", none, (.seq #[.str ⟨#[119, 111, 114, 100]⟩ 2298, .str ⟨#[100, 114, 97, 119, 110]⟩ 2299, .str ⟨#[97, 108, 112, 104, 97, 98, 101, 116, 115]⟩ 2300, .str ⟨#[117, 110, 115, 101, 101, 110]⟩ 2301, .str ⟨#[115, 105, 103, 110, 115]⟩ 2302, .str ⟨#[112, 108, 97, 99, 101]⟩ 2303, .str ⟨#[115, 116, 121, 108, 101]⟩ 2304] 0), #[]⟩
noncomputable def oE138 : Obj := ⟨.type "tuple", none, (.seq #[] 0), #[]⟩
noncomputable def oE139 : Obj := ⟨.none, none, (fnD 18 fun args body scope => { name := ⟨#[95, 108, 97, 119, 95, 115, 112, 101, 108, 108, 101, 100]⟩, qualname := ⟨#[95, 108, 97, 119, 95, 115, 112, 101, 108, 108, 101, 100]⟩, params := args, body := .stmts body, scope := scope, globals := 0, closure := [], defaults := .none, kwdefaults := .none, doc := .none, pyModule := .none, annotations := none, code := .none, closureTuple := .none, builtins := 0 }), #[]⟩
noncomputable def oE140 : Obj := ⟨.type "code", none, (.fields #[.str ⟨#[95, 108, 97, 119, 95, 115, 112, 101, 108, 108, 101, 100]⟩ 2295, .str ⟨#[95, 108, 97, 119, 95, 115, 112, 101, 108, 108, 101, 100]⟩ 2296, .str ⟨#[47, 99, 108, 97, 105, 109, 47, 99, 117, 116, 46, 112, 121]⟩ 2297, .int (64) 0, .int (2) 0, .int (0) 0, .int (0) 0, .int (3) 0, .ref 135, .bool true, .int (181) 0, .ref 136, .none, .ref 137, .ref 138, .ref 139, .int (2305) 0, .int (64) 0, .str ⟨#[47, 99, 108, 97, 105, 109, 47, 99, 117, 116, 46, 112, 121]⟩ 2306]), #[]⟩
noncomputable def oE141 : Obj := ⟨.type "function", none, (fnD 18 fun args body scope => { name := ⟨#[95, 108, 97, 119, 95, 115, 112, 101, 108, 108, 101, 100]⟩, qualname := ⟨#[95, 108, 97, 119, 95, 115, 112, 101, 108, 108, 101, 100]⟩, params := args, body := .stmts body, scope := scope, globals := 3, closure := [], defaults := .none, kwdefaults := .none, doc := .none, pyModule := .str ⟨#[108, 97, 119, 95, 119, 111, 48, 48, 53, 54, 95, 48, 49]⟩ 2293, annotations := none, code := .ref 140, closureTuple := .none, builtins := 0 }), #[]⟩
noncomputable def oE142 : Obj := ⟨.type "tuple", none, (.seq #[] 0), #[]⟩
noncomputable def oE143 : Obj := ⟨.none, none, (.fields #[]), #[]⟩
noncomputable def oE144 : Obj := ⟨.type "tuple", none, (.seq #[.str ⟨#[116, 101, 120, 116]⟩ 2311, .str ⟨#[109, 97, 110, 121]⟩ 2312, .str ⟨#[108, 111, 110, 103, 101, 115, 116]⟩ 2313, .str ⟨#[108, 101, 110, 103, 116, 104]⟩ 2314, .str ⟨#[98, 101, 103, 105, 110]⟩ 2315, .str ⟨#[112, 97, 114, 116]⟩ 2316, .str ⟨#[98, 97, 114, 101]⟩ 2317, .str ⟨#[107]⟩ 2318, .str ⟨#[116, 111, 108, 100]⟩ 2319] 0), #[]⟩
noncomputable def oE145 : Obj := ⟨.type "tuple", none, (.seq #[] 0), #[]⟩
noncomputable def oE146 : Obj := ⟨.none, none, (fnD 19 fun args body scope => { name := ⟨#[95, 108, 97, 119, 95, 97, 115, 107, 101, 100]⟩, qualname := ⟨#[95, 108, 97, 119, 95, 97, 115, 107, 101, 100]⟩, params := args, body := .stmts body, scope := scope, globals := 0, closure := [], defaults := .none, kwdefaults := .none, doc := .none, pyModule := .none, annotations := none, code := .none, closureTuple := .none, builtins := 0 }), #[]⟩
noncomputable def oE147 : Obj := ⟨.type "code", none, (.fields #[.str ⟨#[95, 108, 97, 119, 95, 97, 115, 107, 101, 100]⟩ 2308, .str ⟨#[95, 108, 97, 119, 95, 97, 115, 107, 101, 100]⟩ 2309, .str ⟨#[47, 99, 108, 97, 105, 109, 47, 99, 117, 116, 46, 112, 121]⟩ 2310, .int (77) 0, .int (1) 0, .int (0) 0, .int (0) 0, .int (3) 0, .ref 142, .bool true, .int (181) 0, .ref 143, .none, .ref 144, .ref 145, .ref 146, .int (2320) 0, .int (77) 0, .str ⟨#[47, 99, 108, 97, 105, 109, 47, 99, 117, 116, 46, 112, 121]⟩ 2321]), #[]⟩
noncomputable def oE148 : Obj := ⟨.type "function", none, (fnD 19 fun args body scope => { name := ⟨#[95, 108, 97, 119, 95, 97, 115, 107, 101, 100]⟩, qualname := ⟨#[95, 108, 97, 119, 95, 97, 115, 107, 101, 100]⟩, params := args, body := .stmts body, scope := scope, globals := 3, closure := [], defaults := .none, kwdefaults := .none, doc := .none, pyModule := .str ⟨#[108, 97, 119, 95, 119, 111, 48, 48, 53, 54, 95, 48, 49]⟩ 2293, annotations := none, code := .ref 147, closureTuple := .none, builtins := 0 }), #[]⟩
noncomputable def oE149 : Obj := ⟨.type "tuple", none, (.seq #[] 0), #[]⟩
noncomputable def oE150 : Obj := ⟨.none, none, (.fields #[]), #[]⟩
noncomputable def oE151 : Obj := ⟨.type "tuple", none, (.seq #[.str ⟨#[114, 111, 119]⟩ 2326, .str ⟨#[109, 97, 110, 121]⟩ 2327, .str ⟨#[97, 112, 97, 114, 116]⟩ 2328, .str ⟨#[112, 105, 101, 99, 101, 115]⟩ 2329, .str ⟨#[114, 117, 110]⟩ 2330, .str ⟨#[98, 101, 103, 105, 110]⟩ 2331] 0), #[]⟩
noncomputable def oE152 : Obj := ⟨.type "tuple", none, (.seq #[] 0), #[]⟩
noncomputable def oE153 : Obj := ⟨.none, none, (fnD 20 fun args body scope => { name := ⟨#[95, 108, 97, 119, 95, 97, 108, 105, 107, 101]⟩, qualname := ⟨#[95, 108, 97, 119, 95, 97, 108, 105, 107, 101]⟩, params := args, body := .stmts body, scope := scope, globals := 0, closure := [], defaults := .none, kwdefaults := .none, doc := .none, pyModule := .none, annotations := none, code := .none, closureTuple := .none, builtins := 0 }), #[]⟩
noncomputable def oE154 : Obj := ⟨.type "code", none, (.fields #[.str ⟨#[95, 108, 97, 119, 95, 97, 108, 105, 107, 101]⟩ 2323, .str ⟨#[95, 108, 97, 119, 95, 97, 108, 105, 107, 101]⟩ 2324, .str ⟨#[47, 99, 108, 97, 105, 109, 47, 99, 117, 116, 46, 112, 121]⟩ 2325, .int (94) 0, .int (1) 0, .int (0) 0, .int (0) 0, .int (3) 0, .ref 149, .bool true, .int (181) 0, .ref 150, .none, .ref 151, .ref 152, .ref 153, .int (2332) 0, .int (94) 0, .str ⟨#[47, 99, 108, 97, 105, 109, 47, 99, 117, 116, 46, 112, 121]⟩ 2333]), #[]⟩
noncomputable def oE155 : Obj := ⟨.type "function", none, (fnD 20 fun args body scope => { name := ⟨#[95, 108, 97, 119, 95, 97, 108, 105, 107, 101]⟩, qualname := ⟨#[95, 108, 97, 119, 95, 97, 108, 105, 107, 101]⟩, params := args, body := .stmts body, scope := scope, globals := 3, closure := [], defaults := .none, kwdefaults := .none, doc := .none, pyModule := .str ⟨#[108, 97, 119, 95, 119, 111, 48, 48, 53, 54, 95, 48, 49]⟩ 2293, annotations := none, code := .ref 154, closureTuple := .none, builtins := 0 }), #[]⟩
noncomputable def oE156 : Obj := ⟨.type "tuple", none, (.seq #[] 0), #[]⟩
noncomputable def oE157 : Obj := ⟨.none, none, (.fields #[]), #[]⟩
noncomputable def oE158 : Obj := ⟨.type "tuple", none, (.seq #[.str ⟨#[116, 111, 112]⟩ 2338, .str ⟨#[119, 104, 111, 108, 101]⟩ 2339, .str ⟨#[99, 111, 109, 109, 111, 110]⟩ 2340, .str ⟨#[114, 101, 115, 116]⟩ 2341, .str ⟨#[98, 111, 116, 116, 111, 109]⟩ 2342, .str ⟨#[111, 114, 100, 101, 114]⟩ 2343, .str ⟨#[112, 111, 119, 101, 114]⟩ 2344] 0), #[]⟩
noncomputable def oE159 : Obj := ⟨.type "tuple", none, (.seq #[] 0), #[]⟩
noncomputable def oE160 : Obj := ⟨.none, none, (fnD 21 fun args body scope => { name := ⟨#[95, 108, 97, 119, 95, 111, 114, 100, 101, 114]⟩, qualname := ⟨#[95, 108, 97, 119, 95, 111, 114, 100, 101, 114]⟩, params := args, body := .stmts body, scope := scope, globals := 0, closure := [], defaults := .none, kwdefaults := .none, doc := .none, pyModule := .none, annotations := none, code := .none, closureTuple := .none, builtins := 0 }), #[]⟩
noncomputable def oE161 : Obj := ⟨.type "code", none, (.fields #[.str ⟨#[95, 108, 97, 119, 95, 111, 114, 100, 101, 114]⟩ 2335, .str ⟨#[95, 108, 97, 119, 95, 111, 114, 100, 101, 114]⟩ 2336, .str ⟨#[47, 99, 108, 97, 105, 109, 47, 99, 117, 116, 46, 112, 121]⟩ 2337, .int (104) 0, .int (2) 0, .int (0) 0, .int (0) 0, .int (3) 0, .ref 156, .bool true, .int (181) 0, .ref 157, .none, .ref 158, .ref 159, .ref 160, .int (2345) 0, .int (104) 0, .str ⟨#[47, 99, 108, 97, 105, 109, 47, 99, 117, 116, 46, 112, 121]⟩ 2346]), #[]⟩
noncomputable def oE162 : Obj := ⟨.type "function", none, (fnD 21 fun args body scope => { name := ⟨#[95, 108, 97, 119, 95, 111, 114, 100, 101, 114]⟩, qualname := ⟨#[95, 108, 97, 119, 95, 111, 114, 100, 101, 114]⟩, params := args, body := .stmts body, scope := scope, globals := 3, closure := [], defaults := .none, kwdefaults := .none, doc := .none, pyModule := .str ⟨#[108, 97, 119, 95, 119, 111, 48, 48, 53, 54, 95, 48, 49]⟩ 2293, annotations := none, code := .ref 161, closureTuple := .none, builtins := 0 }), #[]⟩
noncomputable def oE163 : Obj := ⟨.type "tuple", none, (.seq #[] 0), #[]⟩
noncomputable def oE164 : Obj := ⟨.none, none, (.fields #[]), #[]⟩
noncomputable def oE165 : Obj := ⟨.none, none, (fnD 22 fun args body scope => { name := ⟨#[108, 97, 119]⟩, qualname := ⟨#[108, 97, 119]⟩, params := args, body := .stmts body, scope := scope, globals := 0, closure := [], defaults := .none, kwdefaults := .none, doc := .none, pyModule := .none, annotations := none, code := .none, closureTuple := .none, builtins := 0 }), #[]⟩
noncomputable def oE166 : Obj := ⟨.type "code", none, (.fields #[.str ⟨#[108, 97, 119]⟩ 2348, .str ⟨#[108, 97, 119]⟩ 2349, .str ⟨#[47, 99, 108, 97, 105, 109, 47, 99, 117, 116, 46, 112, 121]⟩ 2350, .int (115) 0, .int (1) 0, .int (0) 0, .int (0) 0, .int (3) 0, .ref 163, .bool true, .int (181) 0, .ref 164, .none, .none, .none, .ref 165, .int (2351) 0, .int (115) 0, .str ⟨#[47, 99, 108, 97, 105, 109, 47, 99, 117, 116, 46, 112, 121]⟩ 2352]), #[]⟩
noncomputable def oE167 : Obj := ⟨.type "function", none, (fnD 22 fun args body scope => { name := ⟨#[108, 97, 119]⟩, qualname := ⟨#[108, 97, 119]⟩, params := args, body := .stmts body, scope := scope, globals := 3, closure := [], defaults := .none, kwdefaults := .none, doc := .none, pyModule := .str ⟨#[108, 97, 119, 95, 119, 111, 48, 48, 53, 54, 95, 48, 49]⟩ 2293, annotations := none, code := .ref 166, closureTuple := .none, builtins := 0 }), #[]⟩
noncomputable def lE (P : Params) : List Obj := [boot_o_0 P, boot_o_1 P, boot_o_2 P, oE3 P, boot_o_4 P, boot_o_5 P, boot_o_6 P, boot_o_7 P, boot_o_8 P, boot_o_9 P, boot_o_10 P, opre11, oE12, opre13, opre14, oA15, oA16, oA17, oA18, oA19, oA20, oA21, oA22, oA23, oA24, oA25, oA26, oA27, oA28, oA29, oA30, oA31, oA32, oA33, oA34, oA35, oA36, oA37, oA38, oA39, oA40, oA41, oA42, oA43, oA44, oA45, oA46, oA47, oA48, oA49, oA50, oA51, oA52, oA53, oA54, oA55, oA56, oA57, oA58, oA59, oA60, oA61, oA62, oA63, oA64, oA65, oA66, oA67, oA68, oA69, oA70, oB71, oB72, oB73, oB74, oB75, oB76, oB77, oB78 (!P.followText "set-order"), oB79, oB80, oB81, oC82, oC83, oC84, oC85, oC86, oC87, oC88]
noncomputable def nE : List Obj := [oE128, oE129, oE130, oE131, oE132, oE133, oE134, oE135, oE136, oE137, oE138, oE139, oE140, oE141, oE142, oE143, oE144, oE145, oE146, oE147, oE148, oE149, oE150, oE151, oE152, oE153, oE154, oE155, oE156, oE157, oE158, oE159, oE160, oE161, oE162, oE163, oE164, oE165, oE166, oE167]
noncomputable def stP (l : List Obj) (P : Params) (tk : Nat) (o : OsState) : Shared := ⟨⟨l.toArray, (boot_heap P).life⟩, #[], boot_drawn, tk, o⟩
noncomputable def envE : Env := { scope := pw.main.scope, locals := mainNs, globals := mainNs, cells := [], code := .ref 13, frame := some 14 }
noncomputable def bE : List Stmt := behindTheImports pw
noncomputable abbrev cE : Code := .body bE envE
noncomputable abbrev p0 : Pos := ⟨0, 0, 0, 0⟩
noncomputable abbrev BB : List Frame := [topFrame p0]
/-! part HA -/
section
variable (w : World)
theorem t_pre : (fun os => topGo treeTable pw w 11 (some (.ref 6)) 12 ⟨boot_heap w.params, #[], boot_drawn, boot_toks, os⟩ (topStub pw)) = fun os => some (stP (lP w.params) w.params 187 os, ⟨denote treeTable cE, cE, p0, BB⟩) := by
  rw [PySem.W.Fast.te15667345088766844465, PySem.W.Fast.te14364793385576792824, PySem.W.Fast.te11892475500146522536]
  kernel_rfl
theorem t_block : (fun os => segRun treeTable pw w 11 (some (.ref 6)) 1 1 (stP (lP w.params) w.params 187 os) (blockOf bE envE cE p0 BB)) = fun os => some (.next, stP (lP w.params) w.params 187 os, cE, p0) := by
  rw [PySem.W.Fast.te14374325043358763698, PySem.W.Fast.te14364793385576792824]
  kernel_rfl
theorem t_A : (fun os => segRun treeTable pw w 11 (some (.ref 6)) 1 292 (stP (lP w.params) w.params 187 os) (piecesOf (bE.take 13) envE cE p0 BB)) = fun os => some (.next, stP (lA w.params) w.params 267 os, cE, ⟨53, 0, 53, 8⟩) := by
  rw [PySem.W.Fast.te14374325043358763698, PySem.W.Fast.te14364793385576792824]
  kernel_rfl
theorem t_C : (fun os => segRun treeTable pw w 11 (some (.ref 6)) 1 30 (stP (lB w.params) w.params 327 os) (piecesOf ((bE.drop 14).take 1) envE cE ⟨54, 0, 54, 6⟩ BB)) = fun os => some (.next, stP (lC w.params) w.params 334 os, cE, ⟨55, 0, 56, 30⟩) := by
  rw [PySem.W.Fast.te14374325043358763698, PySem.W.Fast.te14364793385576792824]
  kernel_rfl
end
/-! part HB -/
section
noncomputable def PB (w : World) : Prop := (fun os => segRun treeTable pw w 11 (some (.ref 6)) 1 999 (stP (lA w.params) w.params 267 os) (piecesOf ((bE.drop 13).take 1) envE cE ⟨53, 0, 53, 8⟩ BB)) = fun os => some (.next, stP (lB w.params) w.params 327 os, cE, ⟨54, 0, 54, 6⟩)
theorem t_B00 (w : World) : PB ((w.withFollow "set-order" false).withFollow "special-get-raises" false) := by
  unfold PB
  rw [PySem.W.Fast.te14374325043358763698, PySem.W.Fast.te14364793385576792824]
  kernel_rfl
theorem t_B01 (w : World) : PB ((w.withFollow "set-order" false).withFollow "special-get-raises" true) := by
  unfold PB
  rw [PySem.W.Fast.te14374325043358763698, PySem.W.Fast.te14364793385576792824]
  kernel_rfl
theorem t_B10 (w : World) : PB ((w.withFollow "set-order" true).withFollow "special-get-raises" false) := by
  unfold PB
  rw [PySem.W.Fast.te14374325043358763698, PySem.W.Fast.te14364793385576792824]
  kernel_rfl
theorem t_B11 (w : World) : PB ((w.withFollow "set-order" true).withFollow "special-get-raises" true) := by
  unfold PB
  rw [PySem.W.Fast.te14374325043358763698, PySem.W.Fast.te14364793385576792824]
  kernel_rfl
theorem t_B : ∀ w, PB w := byRow2 "special-get-raises" (byRow2 "set-order" t_B00 t_B10) (byRow2 "set-order" t_B01 t_B11)
end
/-! part HD -/
noncomputable def b15 : Option (Pos × Str × Pos × Pos) := match (bE.drop 15).head? with | some (.Assign [.Name x p] (.Dict _ _ d) a) => some (a, x, p, d) | _ => none
noncomputable def data : List PD := match (bE.drop 15).head? with
  | some (.Assign _ (.Dict ks vs _) _) => (ks.zip vs).filterMap fun | (some (.Constant (.int k) _ kp), .Constant (.str s) _ sp) => some ⟨k, kp, s, sp⟩ | _ => none
  | _ => []
noncomputable def css : List (List PD) := (List.range 38).map fun i => (data.drop (17 * i)).take 17
noncomputable def dD : PD := ⟨0, p0, ⟨#[]⟩, p0⟩
noncomputable def dA := data.getD 646 dD
noncomputable def dB := data.getD 647 dD
noncomputable def dC := data.getD 648 dD
noncomputable def dE := data.getD 649 dD
theorem css_len : ∀ cs ∈ css, cs.length = 17 := by
  have : css.all (fun cs => cs.length == 17) = true := by kernel_rfl
  intro cs h
  simpa using List.all_eq_true.mp this cs h
theorem css_n : css.length = 37 + 1 := by kernel_rfl
theorem data_is : data = css.flatten ++ [dA, dB, dC, dE] := by kernel_rfl
theorem data_n : data.length = 650 := by kernel_rfl
noncomputable def inc : List Int → Bool
  | a :: b :: r => decide (a < b) && inc (b :: r)
  | _ => true
theorem inc_lt : ∀ (l : List Int) (a : Int), inc (a :: l) = true → ∀ b ∈ l, a < b
  | [], _, _, b, h => by cases h
  | c :: r, a, h, b, hb => by
    simp only [inc, Bool.and_eq_true, decide_eq_true_eq] at h
    rcases List.mem_cons.mp hb with rfl | hb
    · exact h.1
    · have := inc_lt r c h.2 b hb; omega
theorem inc_nodup : ∀ l : List Int, inc l = true → l.Nodup
  | [], _ => List.nodup_nil
  | a :: r, h => by
    refine List.nodup_cons.mpr ⟨fun hm => ?_, inc_nodup r ?_⟩
    · have := inc_lt r a h a hm; omega
    · cases r with
      | nil => rfl
      | cons b r => simp only [inc, Bool.and_eq_true] at h; exact h.2
theorem data_nodup : (data.map fun c => hashInt c.k).Nodup := inc_nodup _ (by kernel_rfl)
noncomputable def x15 : Pos × Str × Pos × Pos := b15.getD (p0, ⟨#[]⟩, p0, p0)
noncomputable def st15 : Stmt := PySem.Stmt.Assign [PySem.Expr.Name x15.2.1 x15.2.2.1] (.Dict (data.map fun c => some (.Constant (.int c.k) 0 c.kp)) (data.map fun c => .Constant (.str c.s) 0 c.sp) x15.2.2.2) x15.1
theorem st15_is : bE.drop 15 = st15 :: bE.drop 16 := by kernel_rfl
theorem items_is {env : Env} {pos : Pos} : ∀ (l : List PD), ((evalEachOpt (l.map fun c => some (.Constant (.int c.k) 0 c.kp)) env).zip ((evalEach (l.map fun c => .Constant (.str c.s) 0 c.sp) env).map fun v => do let x ← v; standAt pos; pure x)) = l.map (PD.item env pos) := by
  intro l
  induction l with
  | nil => rfl
  | cons c r ih =>
    have e1 : evalEachOpt ((c :: r).map fun c => some (PySem.Expr.Constant (.int c.k) 0 c.kp)) env = some (c.key env) :: evalEachOpt (r.map fun c => some (PySem.Expr.Constant (.int c.k) 0 c.kp)) env := rfl
    have e2 : evalEach ((c :: r).map fun c => PySem.Expr.Constant (.str c.s) 0 c.sp) env = eval (.Constant (.str c.s) 0 c.sp) env :: evalEach (r.map fun c => PySem.Expr.Constant (.str c.s) 0 c.sp) env := rfl
    rw [e1, e2, List.map_cons, List.zip_cons_cons, ih]
    rfl
theorem exec15 {x : Str} {np dp ap : Pos} {ks : List (Option PySem.Expr)} {vs : List PySem.Expr} {env : Env} : exec (.Assign [.Name x np] (.Dict ks vs dp) ap) env = (do
    standAt ap
    standAt dp
    let v ← dictDisplay ((evalEachOpt ks env).zip ((evalEach vs env).map fun v => do let x ← v; standAt dp; pure x))
    assignAll v [assign (.Name x np) env]
    pure .next) := rfl
/-! part HE -/
section
noncomputable def tail15 (v : Value) : Sem Flow := do
  assignAll v [assign (.Name x15.2.1 x15.2.2.1) envE]
  pure .next
theorem run_tail (w : World) (es : List DictEntry) (post : List Obj) (o : OsState) : run ⟨pw, w.params⟩ (tail15 (.ref 89)) x15.2.2.2 (StD (lC w.params) es post (boot_heap w.params).life #[] boot_drawn 2284 o) = some (.next, ⟨57, 0, 57, 13⟩, StD (lD w.params) es post (boot_heap w.params).life #[] boot_drawn 2285 o, 7) := by
  kernel_rfl
theorem lC_len (P : Params) : (lC P).length = 89 := rfl
noncomputable def four15 : List DictEntry := [⟨hashInt dA.k, .int dA.k 2272, .str dA.s 2273⟩, ⟨hashInt dB.k, .int dB.k 2274, .str dB.s 2275⟩, ⟨hashInt dC.k, .int dC.k 2276, .str dC.s 2277⟩, ⟨hashInt dE.k, .int dE.k 2278, .str dE.s 2279⟩]
noncomputable def es15 : List DictEntry := ents 334 css.flatten ++ four15
noncomputable def post15 : List Obj := (List.range 37).map (fun i => dictO (ents (334 + 51 * (i + 1)) (css.getD (i + 1) []))) ++ [dictO four15]
theorem go_st15 (w : World) (o : OsState) : Go pw w (exec st15 envE) ⟨55, 0, 56, 30⟩ (stP (lC w.params) w.params 334 o) .next ⟨57, 0, 57, 13⟩ (StD (lD w.params) es15 post15 (boot_heap w.params).life #[] boot_drawn 2285 o) 12524 := by
  obtain ⟨es, post, hes, hp, h⟩ := go_display (prog := pw) (w := w) (l := lC w.params) (life := (boot_heap w.params).life) (g := #[]) (dr := boot_drawn) (tk := 334) (o := o) (p := x15.2.2.2) (env := envE) (pos := x15.2.2.2) css css_len 37 css_n dA dB dC dE (by rw [← data_is]; exact data_nodup)
    (by have := congrArg List.length data_is; rw [data_n, List.length_append] at this; have h4 : [dA, dB, dC, dE].length = 4 := rfl; omega) (by rw [lC_len]; decide) (by rw [lC_len]; decide)
  have e15 : es = es15 := hes
  have p15 : post = post15 := hp
  rw [e15, p15] at h
  unfold st15
  refine Go.eq exec15 ?_
  rw [items_is, data_is]
  have hc : ((List.range (37 + 1)).map costAt).sum = 12433 := by decide
  rw [hc] at h
  refine Go.n (Go.bind (n := 1) (n' := 12523) (p' := x15.1) (s' := stP (lC w.params) w.params 334 o) (a := ()) (Go.of_run rfl) ?_) rfl
  refine Go.n (Go.bind (n := 1) (n' := 12522) (p' := x15.2.2.2) (s' := stP (lC w.params) w.params 334 o) (a := ()) (Go.of_run rfl) ?_) rfl
  refine Go.n (Go.bind (n := 12515) (n' := 7) h (Go.of_run (run_tail w es15 post15 o))) rfl
end
/-! part HF -/
section
/-- the state behind b3_exceptions, its sub-dicts left open -/
noncomputable def stE (l : List Obj) (es : List DictEntry) (f : Nat → Obj) (x : Obj) (P : Params) (tk : Nat) (o : OsState) : Shared := stP (l ++ dictO es :: ((List.range 37).map f ++ [x])) P tk o
noncomputable def stF (l n : List Obj) (es : List DictEntry) (f : Nat → Obj) (x : Obj) (P : Params) (tk : Nat) (o : OsState) : Shared := stP (l ++ dictO es :: ((List.range 37).map f ++ x :: n)) P tk o
theorem t_E (w : World) (es : List DictEntry) (f : Nat → Obj) (x : Obj) : (fun os => segRun treeTable pw w 11 (some (.ref 6)) 1 207 (stE (lD w.params) es f x w.params 2285 os) (piecesOf (bE.drop 16) envE cE ⟨57, 0, 57, 13⟩ BB)) = fun os => some (.next, stF (lE w.params) nE es f x w.params 2354 os, cE, ⟨115, 0, 136, 73⟩) := by
  rw [PySem.W.Fast.te14374325043358763698, PySem.W.Fast.te14364793385576792824]
  kernel_rfl
theorem t_F (w : World) (es : List DictEntry) (f : Nat → Obj) (x : Obj) : (fun os => topRun treeTable pw w 11 (some (.ref 6)) 2 (stF (lE w.params) nE es f x w.params 2354 os) ⟨doneF .next, cE, ⟨115, 0, 136, 73⟩, BB⟩) = fun os => some (stF (lE w.params) nE es f x w.params 2354 os) := by
  rw [PySem.W.Fast.te14082659384304107361, PySem.W.Fast.te14364793385576792824]
  kernel_rfl
noncomputable def H1P (P : Params) : Heap := (stF (lE P) nE es15 (fun i => dictO (ents (334 + 51 * (i + 1)) (css.getD (i + 1) []))) (dictO four15) P 2354 {}).heap
end
/-! part HG -/
section
theorem run_all (w : World) (os : OsState) : topRun treeTable pw w 11 (some (.ref 6)) (12 + (1 + (292 + (999 + (30 + (12524 + (207 + 2))))))) ⟨boot_heap w.params, #[], boot_drawn, boot_toks, os⟩ (topStub pw) = some ⟨H1P w.params, #[], boot_drawn, 2354, os⟩ := by
  refine go_top (congrFun (t_pre w) os) ?_
  refine piece_block (congrFun (t_block w) os) ?_
  have e1 : bE = bE.take 13 ++ bE.drop 13 := (List.take_append_drop 13 bE).symm
  have e2 : bE.drop 13 = (bE.drop 13).take 1 ++ bE.drop 14 := by kernel_rfl
  have e3 : bE.drop 14 = (bE.drop 14).take 1 ++ bE.drop 15 := by kernel_rfl
  have e5 : bE.drop 16 = bE.drop 16 ++ [] := (List.append_nil _).symm
  rw [e1]
  refine piece_app (congrFun (t_A w) os) ?_
  rw [e2]
  refine piece_app (congrFun (t_B w) os) ?_
  rw [e3]
  refine piece_app (congrFun (t_C w) os) ?_
  rw [st15_is]
  have h15 := go_st15 w os (some (.ref 6)) (fun f => match f with | .next => (execs (bE.drop 16) envE).wrap doneF (leaveH envE) id id | f => doneF f) (leaveH envE) id id cE (topFrame p0) [] (207 + 2) ⟨H1P w.params, #[], boot_drawn, 2354, os⟩
  unfold restOf
  rw [execs_cons_wrap]
  refine h15 ?_
  have hE := piece_app (rest := []) (r := ⟨H1P w.params, #[], boot_drawn, 2354, os⟩) (N := 2) (congrFun (t_E w es15 (fun i => dictO (ents (334 + 51 * (i + 1)) (css.getD (i + 1) []))) (dictO four15)) os) (congrFun (t_F w es15 (fun i => dictO (ents (334 + 51 * (i + 1)) (css.getD (i + 1) []))) (dictO four15)) os)
  rw [← e5] at hE
  exact hE
end
/-! part HH -/
section
variable (w : World)
noncomputable def sh1 (w : World) (os : OsState) : Shared := ⟨H1P w.params, #[], boot_drawn, 2354, os⟩
noncomputable def Xt : Shared → Bool := fun s => (xlAt q [] s && recOk [] s) && (decide (s.heap.nsMap mainGlobals "b1_set" = some (.ref 78)) && decide (s.heap.nsMap mainGlobals "b3_exceptions" = some (.ref 89)))
theorem l_open : ∀ w : World, (fencedOpening treeTable pw w 100000).map (fun s => (s.heap, s.gens, s.drawn, s.toks)) = some (boot_heap w.params, #[], boot_drawn, boot_toks) :=
  boot_open (by kernel_rfl) (by decide) (fun s => by kernel_rfl)
theorem l_size : ∀ w : World, ((boot_heap w.params).isNs mainGlobals && (#[] : Array GenState).size == 0, (boot_heap w.params).objs.size, (boot_heap w.params).nsMap mainGlobals "__annotations__") = (true, 11, some (.ref 6)) := fun w => by kernel_rfl
theorem l_1 : (staticsOk (importedModules pw.main.body) (boot_heap w.params) (H1P w.params)) = true := by kernel_rfl
theorem l_2 : (namesBound pw (H1P w.params)) = true := by kernel_rfl
theorem l_3 (os : OsState) : gensDone (sh1 w os) = true := by kernel_rfl
theorem l_4 : laidKept (boot_heap w.params) (H1P w.params) = true := by kernel_rfl
theorem l_Y (os : OsState) : ((sh1 w os).heap.get? 78, (sh1 w os).heap.get? 89) = (some (oB78 (!w.params.followText "set-order")), some (dictO es15)) := by kernel_rfl
theorem l_X (os : OsState) : Xt (sh1 w os) = true := by kernel_rfl
end
/-! part HI -/
section
theorem l_seen (w : World) : (fun os => openSeen q loose (importedModules pw.main.body) Xt true (sh1 w os)) = fun _ => openGood q loose := by
  rw [PySem.W.Fast.te4187177175401517315]
  kernel_rfl
end
/-! part HJ -/
section
theorem left_ : LeftO pw q loose Xt (fun s => (s.heap.get? 78, s.heap.get? 89)) (fun w => (some (oB78 (!w.params.followText "set-order")), some (dictO es15))) 100000 :=
  LeftO.of_pieces l_open l_size run_all (by decide) (fun w => by
    funext os
    have a1 := l_1 w; have a2 := l_2 w; have a3 := l_3 w os; have a4 := l_4 w
    have a5 := congrFun (l_seen w) os; have a6 := l_Y w os
    unfold sh1 at a3 a5 a6
    refine Prod.ext ?_ (Prod.ext a5 a6)
    show (_ && _ && _ && _) = true
    rw [a1, a2, a3, a4]; rfl)
end
/-! part HK -/
/-- the entries are these pairs of an int and a text -/
inductive EntsAre : List DictEntry → List (Int × Str) → Prop
  | nil : EntsAre [] []
  | cons (k : Int) (t : Tok) (s : Str) (u : Tok) {es : List DictEntry} {ks : List (Int × Str)} : EntsAre es ks → EntsAre (⟨hashInt k, .int k t, .str s u⟩ :: es) ((k, s) :: ks)
theorem EntsAre.append {es es' : List DictEntry} {ks ks' : List (Int × Str)} (x : EntsAre es ks) (y : EntsAre es' ks') : EntsAre (es ++ es') (ks ++ ks') := by
  induction x with
  | nil => exact y
  | cons k t s u _ ih => exact .cons k t s u ih
theorem ents_are (l : List PD) : ∀ tk, EntsAre (ents tk l) (l.map fun c => (c.k, c.s)) := by
  induction l with
  | nil => intro tk; exact .nil
  | cons c r ih => intro tk; exact .cons _ _ _ _ (ih _)
noncomputable def pairs15 : List (Int × Str) := data.map fun c => (c.k, c.s)
theorem es15_are : EntsAre es15 pairs15 := by
  unfold pairs15
  rw [data_is, List.map_append]
  exact (ents_are _ _).append (.cons _ _ _ _ (.cons _ _ _ _ (.cons _ _ _ _ (.cons _ _ _ _ .nil))))
section
variable {prog : Program} {w : World}
theorem EntsAre.keys {es : List DictEntry} {ks : List (Int × Str)} (x : EntsAre es ks) : ∀ e ∈ es, ∃ k, (intKind prog w).is k e.key = true ∧ e.hash = (intKind prog w).hash k := by
  induction x with
  | nil => intro e he; cases he
  | cons k t s u _ ih =>
    intro e he
    rcases List.mem_cons.mp he with rfl | he
    · exact ⟨k, intKind_is prog w k t, rfl⟩
    · exact ih e he
theorem EntsAre.pairs {es : List DictEntry} {ks : List (Int × Str)} (x : EntsAre es ks) : ∃ kvs : List (Int × Value), Pairs (intKind prog w) es kvs ∧ kvs.map (·.1) = ks.map (·.1) ∧ PyProof.V.FlatPairs PyData.int kvs (ks.map fun p => (.int p.1, .str p.2)) := by
  induction x with
  | nil => exact ⟨[], .nil, rfl, .nil⟩
  | cons k t s u _ ih =>
    obtain ⟨kvs, h1, h2, h3⟩ := ih
    exact ⟨(k, .str s u) :: kvs, .cons (intKind_is prog w k t) rfl h1, by rw [List.map_cons, List.map_cons, h2], .cons (PyProof.V.Flat.str s u) h3⟩
end
noncomputable def lk (c : Int) : List (Int × Str) → Option Str
  | [] => none
  | (k, s) :: r => if k = c then some s else lk c r
theorem lookup_lk (c : Int) : ∀ ks : List (Int × Str), Spec.lookup (.int c) (ks.map fun p => ((.int p.1 : PyData), (.str p.2 : PyData))) = (lk c ks).map .str
  | [] => rfl
  | (k, s) :: r => by
    show (if Spec.same (.int k) (.int c) then some (PyData.str s) else Spec.lookup (.int c) (r.map fun p => ((.int p.1 : PyData), (.str p.2 : PyData)))) = (if k = c then some s else lk c r).map .str
    have e : Spec.same (.int k) (.int c) = decide (k = c) := by simp only [Spec.same]; by_cases h : k = c <;> simp [h]
    rw [e]
    by_cases h : k = c
    · simp [h]
    · simp only [h, decide_false, Bool.false_eq_true, if_false]
      exact lookup_lk c r
theorem lk_none (c : Int) : ∀ ks : List (Int × Str), (∀ p ∈ ks, p.1 ≠ c) → lk c ks = none
  | [], _ => rfl
  | (k, s) :: r, h => by
    simp only [lk]
    rw [if_neg (h (k, s) (.head _))]
    exact lk_none c r fun p hp => h p (.tail _ hp)
theorem keys_low : ∀ p ∈ pairs15, 181 ≤ p.1 := by
  have : pairs15.all (fun p => decide (181 ≤ p.1)) = true := by kernel_rfl
  intro p hp
  simpa using List.all_eq_true.mp this p hp
theorem keys_nodup : (pairs15.map (·.1)).Nodup := inc_nodup _ (by kernel_rfl)
/-- the first list's pairs stand in the second one, in order -/
noncomputable def subL : List (Int × List Nat) → List (Int × Str) → Bool
  | [], _ => true
  | _ :: _, [] => false
  | p :: r, p' :: r' => if p.1 = p'.1 then decide (p'.2.cps.toList = p.2) && subL r r' else subL (p :: r) r'
theorem subL_mem : ∀ (b : List (Int × Str)) (a : List (Int × List Nat)), subL a b = true → ∀ p ∈ a, ((p.1, ⟨p.2.toArray⟩) : Int × Str) ∈ b
  | _, [], _, p, hp => by cases hp
  | [], _ :: _, h, _, _ => by cases h
  | p' :: r', x :: r, h, p, hp => by
    unfold subL at h
    split at h
    · rename_i e
      simp only [Bool.and_eq_true, decide_eq_true_eq] at h
      rcases List.mem_cons.mp hp with rfl | hp
      · obtain ⟨k', s'⟩ := p'
        obtain ⟨cs⟩ := s'
        have e1 : p.1 = k' := e
        have e2 : cs.toList = p.2 := h.1
        rw [e1, ← e2]
        exact .head _
      · exact .tail _ (subL_mem r' r h.2 p hp)
    · exact .tail _ (subL_mem r' (x :: r) h p hp)
theorem lk_mem (c : Int) (s : Str) : ∀ ks : List (Int × Str), (ks.map (·.1)).Nodup → (c, s) ∈ ks → lk c ks = some s
  | [], _, h => by cases h
  | (k, t) :: r, hn, h => by
    rw [List.map_cons] at hn
    have hn' := List.nodup_cons.mp hn
    unfold lk
    rcases List.mem_cons.mp h with e | h
    · cases e
      rw [if_pos rfl]
    · have : k ≠ c := by
        rintro rfl
        exact hn'.1 (List.mem_map.mpr ⟨_, h, rfl⟩)
      rw [if_neg this]
      exact lk_mem c s r hn'.2 h
noncomputable def wanted : List (Int × List Nat) := ([0, 1, 2, 4, 7, 8, 9, 10, 11, 12] : List Nat).flatMap fun j => (List.range 16).map fun i => (((119808 + i + 52 * j : Nat) : Int), [97 + i])
theorem letters_in (j : Nat) (hj : j ∈ ([0, 1, 2, 4, 7, 8, 9, 10, 11, 12] : List Nat)) (i : Nat) (hi : i < 16) : lk ((119808 + i + 52 * j : Nat) : Int) pairs15 = some ⟨#[97 + i]⟩ := by
  have hsub : subL wanted pairs15 = true := by kernel_rfl
  refine lk_mem _ _ _ keys_nodup ?_
  exact subL_mem _ _ hsub (((119808 + i + 52 * j : Nat) : Int), [97 + i]) (List.mem_flatMap.mpr ⟨j, hj, List.mem_map.mpr ⟨i, List.mem_range.mpr hi, rfl⟩⟩)
section
variable {prog : Program} {w : World}
theorem b3_is {h : Heap} (e : h.get? 89 = some (dictO es15)) : ∃ D, IntTab prog w h 89 D ∧ (∀ c : Int, c < 181 → Spec.lookup (.int c) D = none) ∧
    ∀ j ∈ ([0, 1, 2, 4, 7, 8, 9, 10, 11, 12] : List Nat), ∀ i, i < 16 → Spec.lookup (.int ((119808 + i + 52 * j : Nat) : Int)) D = some (.str ⟨#[97 + i]⟩) := by
  obtain ⟨kvs, h1, h2, h3⟩ := es15_are.pairs (prog := prog) (w := w)
  refine ⟨pairs15.map fun p => (.int p.1, .str p.2), TabAt.ofObj (by decide) e ⟨es15.toArray, _, ⟨rfl, rfl, rfl⟩, rfl, ?_, ?_, by rw [h2]; exact keys_nodup⟩ h3, ?_, ?_⟩
  · intro x hx
    exact es15_are.keys x (by simpa using hx)
  · exact h1
  · intro c hc
    rw [lookup_lk, lk_none c _ (fun p hp => by have := keys_low p hp; omega)]
    rfl
  · intro j hj i hi
    rw [lookup_lk, letters_in j hj i hi]
    rfl
noncomputable def setEs : List (Int × Value) := match (oB78 true).data with | .set es _ _ => es.toList | _ => []
theorem b1_is {h : Heap} {b : Bool} (e : h.get? 78 = some (oB78 b)) : ∃ S n, h.SetOf (intKind prog w) 78 S n ∧ ∀ c, S c = decide (c ∈ b1L) := by
  refine ⟨fun c => decide (c ∈ b1L), 27, ⟨_, _, _, _, e, ⟨rfl, rfl, rfl⟩, rfl, ?_, ?_, by decide, ?_, rfl⟩, fun _ => rfl⟩
  · show ElemsOf (intKind prog w) setEs
    have hall : setEs.all (fun e => match e.2 with | .int k _ => decide (e.1 = hashInt k) && e.2.scannable | _ => false) = true := by decide +kernel
    intro x hx
    have h1 := List.all_eq_true.mp hall x hx
    obtain ⟨hsh, v⟩ := x
    cases v with
    | int k t =>
      simp only [Bool.and_eq_true, decide_eq_true_eq] at h1
      exact ⟨⟨k, intKind_is prog w k t, h1.1⟩, h1.2⟩
    | _ => cases h1
  · intro k
    show decide (k ∈ b1L) = true ↔ ∃ e ∈ setEs, Value.isInt k e.2 = true
    have h1 : b1L.all (fun k => setEs.any fun e => Value.isInt k e.2) = true := by decide +kernel
    have h2 : setEs.all (fun e => match e.2 with | .int k _ => decide (k ∈ b1L) | _ => false) = true := by decide +kernel
    constructor
    · intro hk
      exact List.any_eq_true.mp (List.all_eq_true.mp h1 k (by simpa using hk))
    · rintro ⟨⟨hsh, v⟩, he, hv⟩
      have h3 := List.all_eq_true.mp h2 _ he
      cases v with
      | int i t =>
        have : i = k := by simpa [Value.isInt] using hv
        rw [← this]; exact h3
      | _ => cases hv
  · cases b <;> decide +kernel
theorem ext_is {mg : Str → Option Value} {h : Heap} {b : Bool} (h1 : mg "b1_set" = some (.ref 78)) (h2 : mg "b3_exceptions" = some (.ref 89)) (e1 : h.get? 78 = some (oB78 b)) (e2 : h.get? 89 = some (dictO es15)) : Ext prog w mg h := by
  obtain ⟨S, n, a1, a2⟩ := b1_is (prog := prog) (w := w) e1
  obtain ⟨D, c1, c2, c3⟩ := b3_is (prog := prog) (w := w) e2
  exact ⟨⟨78, S, n, h1, a1, a2⟩, ⟨89, D, h2, c1, c2, c3⟩⟩
end
theorem loose_is : looseW q loose = loose := by kernel_rfl
/-! part Z1 -/
theorem XPk : ∀ (mg : Str → Option Value) (h h' : Heap), (XL q [] mg h ∧ mg "b1_set" = some (.ref 78) ∧ mg "b3_exceptions" = some (.ref 89)) → (∀ b o, h.get? b = some o → h'.get? b = some o) → (XL q [] mg h' ∧ mg "b1_set" = some (.ref 78) ∧ mg "b3_exceptions" = some (.ref 89)) :=
  fun mg h h' x k => ⟨XL.keeps mg h h' x.1 k, x.2⟩
theorem skel : PySem.Challenge.rw_wo0056_01.Holds := by
  w_on
  o_law
  refine holds_open (q := q) (loose := loose) (Xt := Xt) (XP := fun mg h => XL q [] mg h ∧ mg "b1_set" = some (.ref 78) ∧ mg "b3_exceptions" = some (.ref 89)) (Yf := fun s => (s.heap.get? 78, s.heap.get? 89)) (Ya := fun w => (some (oB78 (!w.params.followText "set-order")), some (dictO es15)))
    (YP := fun w h => h.get? 78 = some (oB78 (!w.params.followText "set-order")) ∧ h.get? 89 = some (dictO es15)) (N := 100000) left_ (fun w s e => Prod.mk.inj e) (fun w h h' x k => ⟨k _ _ x.1, k _ _ x.2⟩) ?hX XPk (by rfl) (by rfl) (by rfl) ?hR (by rfl) (by first | assumption | decide +kernel) (by decide +kernel) ⟨rfl, rfl, rfl, rfl, rfl, by decide +kernel⟩ ?hw ?hc
  case hw => w_witness2
  case hX =>
    intro s e
    unfold Xt at e
    simp only [Bool.and_eq_true, decide_eq_true_eq] at e
    exact ⟨xl_of s e.1.1, e.2.1, e.2.2⟩
  case hR =>
    intro s e
    unfold Xt at e
    simp only [Bool.and_eq_true, decide_eq_true_eq] at e
    exact recFacts_of e.1.2
  case hc =>
    intro w s₀ s₁ mg mb G Y fa o pm cd doc dV kV ho hd hcd hD hmg hg args vals as hpre hlay hrd hwl hlo
    k_behind G ho hd hcd hD hmg hpre hlay hrd hwl hlo cd
    have T9 : Top q loose (ExcName.means s₀.heap) mg mb s₁.heap := by
      have := ‹Top q (looseW q loose) (ExcName.means s₀.heap) mg mb s₁.heap›
      rwa [loose_is] at this
    have hV := ‹mg (Str.ofString "b1_set") = some (Value.ref 78) ∧ mg (Str.ofString "b3_exceptions") = some (Value.ref 89)›
    have hle := ‹¬((63 : Nat) : Int) < _›
    refine wpAny_mono (law_walk (A := callerA) ‹Below callerA _ [] _› ‹Fr s₁.heap _ _ _› ‹News s₁.heap _ _ []› T9 (ext_is hV.1 hV.2 Y.1 Y.2) ⟨rfl, by decide, by decide⟩ rfl ‹s₁.heap.IsList _ _› ‹IntsAre _ _› (by omega)) (fun fl s' hl => ?_) (fun _ _ x => x.elim)
    obtain ⟨h', tk', rfl, hk, hv⟩ := hl
    exact ⟨.inl ⟨.bool true, .bool true, [], congrArg (fun v => Except.ok (Flow.ret v)) hv, fun _ => rfl, .bool true, postW_of (by wrow_shape) (w_eq_bool (w_res rfl) w_lit) (by rfl), unshared_nil⟩, hk, rfl, hg⟩
end Mine
theorem PySem.Challenge.cw_wo0056_01_holds : PySem.Challenge.rw_wo0056_01.Holds := by
  exact Mine.skel
