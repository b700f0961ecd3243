import PyProof.Rows.All
import Wide.All
import OpenK.AllK
import Wide.FinOn
import Open.Tops
import PySem.Challenge.RW_pd0020_01
open PySem PySem.W PyProof.Rows PySem.Calls
set_option Elab.async false
set_option maxRecDepth 100000
set_option maxHeartbeats 0
namespace Mine
abbrev prog : Program := PySem.Challenge.pw_pd0020_01
noncomputable section
def stm (i : Nat) : Stmt := (prog.main.body[i]?).getD (.Pass default)
def nm : Stmt → Str
  | .FunctionDef n .. => n
  | _ => ""
def pr : Stmt → Arguments
  | .FunctionDef _ a .. => a
  | _ => default
def bd : Stmt → List Stmt
  | .FunctionDef _ _ b .. => b
  | _ => []
def sc : Stmt → Scope
  | .FunctionDef _ _ _ _ _ _ s .. => s
  | _ => default
def b1L : List Int := [65024, 65025, 65026, 65027, 65028, 65029, 6150, 65030, 65031, 65032, 65033, 6155, 6156, 6157, 8203, 8204, 8205, 65034, 65035, 65036, 65037, 65038, 65039, 173, 847, 8288, 65279]
def dKeys : List Expr := match stm 18 with
  | .Assign _ (.Dict ks _ _) _ => ks.filterMap id
  | _ => []
def dVals : List Expr := match stm 18 with
  | .Assign _ (.Dict _ vs _) _ => vs
  | _ => []
def keyOf : Expr → Int
  | .Constant (.int k) _ _ => k
  | _ => 0
def valOf' : Expr → Str
  | .Constant (.str x) _ _ => x
  | _ => ""
def pairs : List (Int × Str) := (dKeys.map keyOf).zip (dVals.map valOf')
/-- table B.3's exceptions -/
def b3 (k : Int) : Option Str := pairs.lookup k
/-- what map_table_b3 gives for a sign -/
def m3 (c : Nat) : Str := (b3 c).getD (Txt.lower ⟨#[c]⟩)
def Keep (h h' : Heap) : Prop := ∀ b o, h.get? b = some o → h'.get? b = some o
def FnAt (h : Heap) (a i : Nat) : Prop := ∃ o pm cd, h.get? a = some o ∧ o.data = .func (docDef (nm (stm i)) (pr (stm i)) (bd (stm i)) (sc (stm i)) pm cd .none) ∧ h.CodeRec cd (nm (stm i))
def globL : List (Str × Value) := [("fspath", .ref 94), ("_get_sep", .ref 108), ("join", .ref 115), ("b1_set", .ref 123), ("in_table_b1", .ref 133), ("b3_exceptions", .ref 134), ("map_table_b3", .ref 179),
  ("_law_gone", .ref 186), ("_law_special", .ref 193), ("_law_part", .ref 200), ("_law_prepared", .ref 205), ("_law_hung", .ref 212), ("_law_alike", .ref 219), ("law", .ref 224)]
def fnL : List (Nat × Nat) := [(94, 9), (108, 13), (115, 14), (133, 17), (179, 19), (186, 21), (193, 22), (200, 23), (205, 24), (212, 25), (219, 26), (224, 27)]
def bltL : List (Str × Value) := [("ord", .builtin "ord"), ("chr", .builtin "chr"), ("len", .builtin "len"), ("isinstance", .builtin "isinstance"), ("issubclass", .builtin "issubclass"),
  ("str", .type "str"), ("int", .type "int"), ("range", .type "range"), ("type", .type "type"), ("bytes", .type "bytes")]
structure Wd (w : World) (mg mb : Str → Option Value) (h : Heap) : Prop where
  g : h.Ns mainGlobals mg
  b : h.Ns builtinsNs mb
  gv : ∀ p ∈ globL, mg p.1 = some p.2
  bv : ∀ p ∈ bltL, mg p.1 = none ∧ mb p.1 = some p.2
  fn : ∀ p ∈ fnL, FnAt h p.1 p.2
  nolimit : h.NoLimit
  digits : ∃ mc, h.Ns cStatics mc ∧ mc "sys.int_max_str_digits" = none
  set : h.SetOf (intKind prog w) 123 (fun k => b1L.contains k) 27
  dict : ∃ f : Int → Option Value, h.MapOf (intKind prog w) 134 f ∧ ∀ k, ∃ t, f k = (b3 k).map fun x => .str x t
theorem Keep.refl (h : Heap) : Keep h h := fun _ _ e => e
theorem Keep.trans {h₁ h₂ h₃ : Heap} (x : Keep h₁ h₂) (y : Keep h₂ h₃) : Keep h₁ h₃ := fun b o e => y b o (x b o e)
theorem FnAt.keeps {h h' : Heap} {a i : Nat} (x : FnAt h a i) (k : Keep h h') : FnAt h' a i :=
  let ⟨o, pm, cd, h1, h2, h3⟩ := x; ⟨o, pm, cd, k _ _ h1, h2, h3.keeps k⟩
theorem Wd.keeps {w : World} {mg mb : Str → Option Value} {h h' : Heap} (x : Wd w mg mb h) (k : Keep h h') : Wd w mg mb h' :=
  ⟨x.g.keeps k, x.b.keeps k, x.gv, x.bv, fun p hp => (x.fn p hp).keeps k, x.nolimit.keeps k, (let ⟨mc, h1, h2⟩ := x.digits; ⟨mc, h1.keeps k, h2⟩),
    (let ⟨o, es, ep, t, h1, r⟩ := x.set; ⟨o, es, ep, t, k _ _ h1, r⟩), (let ⟨f, ⟨o, es, ep, h1, r⟩, h2⟩ := x.dict; ⟨f, ⟨o, es, ep, k _ _ h1, r⟩, h2⟩)⟩
/-- a call that ends with a value, keeps every old object, and leaves generators and the outside alone -/
def Ct (w : World) (A : Around) (c : Code) (s : Shared) (P : Value → Heap → Prop) : Prop :=
  codeAny (model prog w) A c (fun r s' => ∃ v, r = .ok (.ret v) ∧ Keep s.heap s'.heap ∧ s'.gens = s.gens ∧ s'.os = s.os ∧ P v s'.heap) s
section
variable {M : Model} {A : Around} {E : Value → Shared → Prop} {s : Shared} {n : Str} {scope : Scope} {L a : Addr} {cd : Value} {w : World} {mg mb : Str → Option Value} {Q : Value → Shared → Prop}
theorem gl {x : Str} {pos : Pos} {v : Value} (W : Wd w mg mb s.heap) (hv : (x, v) ∈ globL) (h : Q v s)
    (hk : scope.kind = .function := by rfl) (hx : (envOf n scope L a cd).kindOf x = some .globalImplicit := by rfl)
    (hd : (x == ("__debug__" : Str)) = false := by decide) : wpAny M A (eval (.Name x pos) (envOf n scope L a cd)) Q E s :=
  Name_function_global hk hx (loadGlobal_global (env := envOf n scope L a cd) W.g (W.gv _ hv) h) hd
theorem bl {x : Str} {pos : Pos} {v : Value} (W : Wd w mg mb s.heap) (hv : (x, v) ∈ bltL) (h : Q v s)
    (hk : scope.kind = .function := by rfl) (hx : (envOf n scope L a cd).kindOf x = some .globalImplicit := by rfl)
    (hd : (x == ("__debug__" : Str)) = false := by decide) : wpAny M A (eval (.Name x pos) (envOf n scope L a cd)) Q E s :=
  Name_function_global hk hx (loadGlobal_builtin (env := envOf n scope L a cd) W.g (W.bv _ hv).1 W.b (W.bv _ hv).2 h) hd
end
/-- how a body must end -/
def Rt (s : Shared) (P : Value → Heap → Prop) (f : Flow) (s' : Shared) : Prop := Keep s.heap s'.heap ∧ s'.gens = s.gens ∧ s'.os = s.os ∧ P (match f with | .ret v => v | _ => .none) s'.heap
abbrev No : Value → Shared → Prop := fun _ _ => False
theorem enter {w : World} {mg mb : Str → Option Value} {A : Around} {s : Shared} {P : Value → Heap → Prop} {a i : Nat} {args : List Value} (ns : List Str) (vs : List Value) (W : Wd w mg mb s.heap) (hf : (a, i) ∈ fnL) (hA : A.depth < 1000)
    (hbind : ∀ pm cd, bindArgs (docDef (nm (stm i)) (pr (stm i)) (bd (stm i)) (sc (stm i)) pm cd .none) ⟨args, []⟩ = pure (ns.zip vs))
    (hloc : ns.all (fun x => decide ((sc (stm i)).names.lookup x = some .local)) = true)
    (hsc : (!(sc (stm i)).isCoroutine && !(sc (stm i)).isGenerator && decide ((sc (stm i)).kind = .function) && (sc (stm i)).names.all (fun x => decide (x.2 ≠ .cell))) = true)
    (body : ∀ cd h₁ L, Fr s.heap L h₁ (fun x => (ns.zip vs).reverse.lookup x) → Wd w mg mb h₁ → wpAny (model prog w) (A.deeper (envOf (nm (stm i)) (sc (stm i)) L a cd)) (execs (bd (stm i)) (envOf (nm (stm i)) (sc (stm i)) L a cd))
      (Rt s P) No ⟨h₁, s.gens, s.drawn, s.toks + (ns.zip vs).length, s.os⟩) : Ct w A (.call (.ref a) ⟨args, []⟩) s P := by
  obtain ⟨o, pm, cd, ho, hd, hcd⟩ := W.fn (a, i) hf
  simp only [Bool.and_eq_true, Bool.not_eq_true', decide_eq_true_eq, List.all_eq_true] at hsc
  obtain ⟨⟨⟨h1, h2⟩, h3⟩, h4⟩ := hsc
  refine call_plain_ret (binds := ns.zip vs) hA ho hd W.nolimit hcd (hbind pm cd) (fun x hx => ?_) (fun h₁ F => ?_) h1 h2 h3 h4
  · exact of_decide_eq_true (List.all_eq_true.mp hloc x.1 (List.of_mem_zip hx).1)
  · exact wpAny_mono (body cd h₁ _ F (W.keeps F.keep)) (fun f s' h => ⟨_, rfl, h⟩) fun _ _ x => x
section
variable {w : World} {A : Around} {E : Value → Shared → Prop} {s : Shared} {P : Value → Heap → Prop} {Q : Value → Shared → Prop}
/-- a call by its contract -/
theorem call_ct {f : Value} {args : List Value} (h : Ct w A (.call f ⟨args, []⟩) s P) (k : ∀ v s', Keep s.heap s'.heap → s'.gens = s.gens → s'.os = s.os → P v s'.heap → Q v s') : wpAny (model prog w) A (call f args) Q E s :=
  wpAny_call (codeAny_mono h fun r s' ⟨v, e, h1, h2, h3, h4⟩ => by subst e; exact k v s' h1 h2 h3 h4)
theorem Frk {h₀ h h' : Heap} {L : Addr} {m : Str → Option Value} (F : Fr h₀ L h m) (k : Keep h h') : Fr h₀ L h' m := ⟨F.ns.keeps k, fun b o e => k b o (F.keep b o e), F.above⟩
end
end
end Mine
namespace Mine
noncomputable section
structure Rm (A : Around) (n : Nat) : Prop where
  depth : A.depth + n < 1000
  units : A.units + 10 * n < 9900
  hd : A.handled = none
theorem Rm.deeper {A : Around} {n : Nat} {env : Env} (h : Rm A (n + 1)) : Rm (A.deeper env) n := ⟨by have := h.1; show A.depth + 1 + n < 1000; omega, by have := h.2; show A.units + 3 + 10 * n < 9900; omega, h.3⟩
theorem Rm.le {A : Around} {n m : Nat} (h : Rm A n) (le : m ≤ n) : Rm A m := ⟨by have := h.1; omega, by have := h.2; omega, h.3⟩
theorem Rm.room {A : Around} {n : Nat} (h : Rm A n) : A.depth < 1000 := by have := h.1; omega
section
variable {M : Model} {A : Around} {E : Value → Shared → Prop} {env : Env} {h h₀ : Heap} {g : Array GenState} {dr : Drawn} {k : Nat} {o : OsState} {Q : Value → Shared → Prop} {U : Unit → Shared → Prop} {w : World}
  {n : Str} {scope : Scope} {L a : Addr} {cd : Value} {m : Str → Option Value}
theorem rInt {i : Int} {kk : Nat} {pos : Pos} (H : ∀ t k', Q (.int i t) ⟨h, g, dr, k', o⟩) : wpAny M A (eval (.Constant (.int i) kk pos) env) Q E ⟨h, g, dr, k, o⟩ := wpAny_Constant_int (H _ _)
theorem rStr {x : Str} {kk : Nat} {pos : Pos} (H : ∀ t k', Q (.str x t) ⟨h, g, dr, k', o⟩) : wpAny M A (eval (.Constant (.str x) kk pos) env) Q E ⟨h, g, dr, k, o⟩ := wpAny_Constant_str (H _ _)
theorem rMod {a b : Int} {t u : Tok} (hb : b ≠ 0) (H : ∀ t k', Q (.int (a.fmod b) t) ⟨h, g, dr, k', o⟩) : wpAny (model prog w) A (binaryOp .Mod (.int a t) (.int b u)) Q E ⟨h, g, dr, k, o⟩ := PyProof.Rows.mod_int hb (H _ _)
theorem rAdd {a b : Int} {t u : Tok} (H : ∀ t k', Q (.int (a + b) t) ⟨h, g, dr, k', o⟩) : wpAny (model prog w) A (binaryOp .Add (.int a t) (.int b u)) Q E ⟨h, g, dr, k, o⟩ := PyProof.Rows.add_int (H _ _)
theorem rLd {x : Str} {pos : Pos} {v : Value} (F : Fr h₀ L h m) (hv : m x = some v) (H : Q v ⟨h, g, dr, k, o⟩)
    (hk : scope.kind = .function := by rfl) (hl : (envOf n scope L a cd).kindOf x = some .local := by rfl)
    (hd : (x == ("__debug__" : Str)) = false := by decide) :
    wpAny M A (eval (.Name x pos) (envOf n scope L a cd)) Q E ⟨h, g, dr, k, o⟩ := ld (s := ⟨h, g, dr, k, o⟩) F hv H hk hl hd
theorem rSt {x : Str} {v : Value} (F : Fr h₀ L h m)
    (H : ∀ h' k', Fr h₀ L h' (fun y => if y = x then some v else m y) → Heap.SameBut L h h' → U () ⟨h', g, dr, k', o⟩)
    (hk : scope.kind = .function := by rfl) (hl : (envOf n scope L a cd).kindOf x = some .local := by rfl) :
    wpAny M A (storeName (envOf n scope L a cd) x v) U E ⟨h, g, dr, k, o⟩ :=
  wpAny_storeName_local hl F.ns (fun h' hn hs => H h' _ (F.set hn hs) hs)
    (by show (scope.kind == .class || (scope.kind == .module && L != mainGlobals)) = false; rw [hk]; rfl)
theorem rGl {mg mb : Str → Option Value} {x : Str} {pos : Pos} {v : Value} (W : Wd w mg mb h) (hv : (x, v) ∈ globL) (H : Q v ⟨h, g, dr, k, o⟩)
    (hk : scope.kind = .function := by rfl) (hx : (envOf n scope L a cd).kindOf x = some .globalImplicit := by rfl)
    (hd : (x == ("__debug__" : Str)) = false := by decide) : wpAny M A (eval (.Name x pos) (envOf n scope L a cd)) Q E ⟨h, g, dr, k, o⟩ := gl (s := ⟨h, g, dr, k, o⟩) W hv H hk hx hd
theorem rBl {mg mb : Str → Option Value} {x : Str} {pos : Pos} {v : Value} (W : Wd w mg mb h) (hv : (x, v) ∈ bltL) (H : Q v ⟨h, g, dr, k, o⟩)
    (hk : scope.kind = .function := by rfl) (hx : (envOf n scope L a cd).kindOf x = some .globalImplicit := by rfl)
    (hd : (x == ("__debug__" : Str)) = false := by decide) : wpAny M A (eval (.Name x pos) (envOf n scope L a cd)) Q E ⟨h, g, dr, k, o⟩ := bl (s := ⟨h, g, dr, k, o⟩) W hv H hk hx hd
theorem rItemStr {value slice : Expr} {x : Str} {t u : Tok} {i : Int} (h0 : 0 ≤ i) (h1 : i < x.length) (hb : i < 2 ^ 63) (H : ∀ t k', Q (.str (Txt.item x i) t) ⟨h, g, dr, k', o⟩)
    (hs : subscripted slice false (.str x t) (.int i u) = operate [.str x t, .int i u] (getItem (.str x t) (.int i u)) := by with_unfolding_all rfl)
    (ht : ∀ r, letTemporaryGo value (.str x t) r = pure () := by intro _; with_unfolding_all rfl) :
    wpAny (model prog w) A (subscriptTail value slice (.str x t) (.int i u)) Q E ⟨h, g, dr, k, o⟩ :=
  PyProof.Rows.item_str (fitsSsize_of (N := 9223372036854775808) (by omega) (by omega) (Int.le_refl _)) (by omega) h1 (fun _ => H _ _) hs ht
theorem rChr {i : Int} {t : Tok} (h0 : 0 ≤ i) (h1 : i ≤ 1114111) (H : ∀ t k', Q (.str ⟨#[i.toNat]⟩ t) ⟨h, g, dr, k', o⟩) :
    wpAny (model prog w) A (call (.builtin "chr") [.int i t]) Q E ⟨h, g, dr, k, o⟩ := chr_of_range h0 h1 (H _ _)
theorem rOrd {c : Nat} {t : Tok} (H : ∀ t k', Q (.int (c : Int) t) ⟨h, g, dr, k', o⟩) :
    wpAny (model prog w) A (call (.builtin "ord") [.str ⟨#[c]⟩ t]) Q E ⟨h, g, dr, k, o⟩ := ord_of_one rfl (H _ _)
theorem rLower {x : Str} {t : Tok} {pos : Pos} (hfit : (Txt.lower x).length ≤ sizeLine) (H : ∀ t k', Q (.str (Txt.lower x) t) ⟨h, g, dr, k', o⟩) :
    MethodOnS prog w A E "lower" (.str x t) pos [] Q ⟨h, g, dr, k, o⟩ := SB.lower (by unfold Builtin.Str.tooLong; exact decide_eq_false (by omega)) (H _ _)
theorem rNewTuple {vs : List Value} (H : Q (.ref h.objs.size) ⟨h.push { cls := .type "tuple", data := .seq vs.toArray }, g, dr, k, o⟩) (hsz : vs.length ≤ sizeLine) :
    wpAny M A (newTuple vs) Q E ⟨h, g, dr, k, o⟩ := wpAny_newObj_type H (by show vs.toArray.size ≤ sizeLine; rw [List.size_toArray]; exact hsz)
theorem rNewList {vs : List Value} (H : Q (.ref h.objs.size) ⟨h.push { cls := .type "list", data := .seq vs.toArray }, g, dr, k, o⟩) (hsz : vs.length ≤ sizeLine) :
    wpAny M A (newList vs) Q E ⟨h, g, dr, k, o⟩ := wpAny_newObj_type H (by show vs.toArray.size ≤ sizeLine; rw [List.size_toArray]; exact hsz)
theorem keep_push (h : Heap) (ob : Obj) : Keep h (h.push ob) := fun _ _ e => Heap.get?_push_of_some _ e
theorem tup_push (h : Heap) (vs : List Value) : IsTup (h.push { cls := .type "tuple", data := .seq vs.toArray }) h.objs.size vs.toArray := ⟨_, Heap.get?_push_size _ rfl, rfl, _, rfl⟩
theorem lst_push (h : Heap) (vs : List Value) : (h.push { cls := .type "list", data := .seq vs.toArray }).IsList h.objs.size vs.toArray := ⟨_, Heap.get?_push_size _ rfl, rfl, _, rfl⟩
end
theorem lower1 (c : Nat) : Txt.lower ⟨#[c]⟩ = ⟨(Unicode.lowerOf c).toArray⟩ := by
  unfold Txt.lower PySem.placed
  simp [Unicode.lowerAt, Unicode.endsWord]
theorem txt_lower_le (c : Nat) : (Txt.lower ⟨#[c]⟩).length ≤ 3 := by
  rw [lower1]; exact StrLaws.lowerOf_le3 c
end
end Mine
namespace Mine
noncomputable section
theorem in_table_b1_ct {w : World} {mg mb : Str → Option Value} {A : Around} {s : Shared} (W : Wd w mg mb s.heap) (hA : Rm A 0) (c : Nat) (t : Tok) :
    Ct w A (.call (.ref 133) ⟨[.str ⟨#[c]⟩ t], []⟩) s (fun v _ => v = .bool (b1L.contains (c : Int))) := by
  refine enter (i := 17) ["code"] [.str ⟨#[c]⟩ t] W (by decide) hA.room (fun _ _ => rfl) (by decide +kernel) (by decide +kernel) ?_
  intro cd h₁ L F W1
  refine wpAny_execs_cons (wpAny_Return_some (wpAny_Compare1 (Call_ (rBl W1 (v := .builtin "ord") (by decide) ?_))))
  refine PyProof.Rows.callWith_builtin1 (args_cons (rLd F rfl (args_nil (rOrd fun t k => ?_))))
  refine rGl W1 (v := .ref 123) (by decide) ?_
  refine wpAny_inSet_of (knd := intKind prog w) (k := (c : Int)) (by simp [intKind, Value.isInt]) rfl W1.set ?_
  exact ⟨F.keep, rfl, rfl, rfl⟩
theorem map_table_b3_ct {w : World} {mg mb : Str → Option Value} {A : Around} {s : Shared} (W : Wd w mg mb s.heap) (hA : Rm A 0) (c : Nat) (t : Tok) :
    Ct w A (.call (.ref 179) ⟨[.str ⟨#[c]⟩ t], []⟩) s (fun v _ => ∃ t, v = .str (m3 c) t) := by
  refine enter (i := 19) ["code"] [.str ⟨#[c]⟩ t] W (by decide) hA.room (fun _ _ => rfl) (by decide +kernel) (by decide +kernel) ?_
  intro cd h₁ L F W1
  obtain ⟨f, hm, hf⟩ := W1.dict
  refine wpAny_execs_cons (wpAny_Assign_Name (MethodCall_ (rGl W1 (v := .ref 134) (by decide) ?_)))
  refine getMethod_builtin hm.typeIs PySem.F.plainAttrs_dict PySem.F.slot_dict_get PySem.F.type_dict_get hm.noDict ?_
  refine wpAny_dict_get1 (knd := intKind prog w) (by decide) ?_
  refine Call_ (rBl W1 (v := .builtin "ord") (by decide) ?_)
  refine PyProof.Rows.callWith_builtin1 (args_cons (rLd F rfl (args_nil (rOrd fun t k => ?_))))
  refine ⟨(c : Int), f, by simp [intKind, Value.isInt], hm, ?_⟩
  obtain ⟨tv, hv⟩ := hf c
  rw [hv]
  refine rSt F fun h₂ k₂ F2 _ => ?_
  have W2 := W.keeps F2.keep
  refine wpAny_execs_cons (wpAny_If (wpAny_isTrue_Compare1 (rLd F2 rfl (wpAny_Constant_none (isNot_none ?_)))))
  refine wpAny_truthy_bool ?_
  cases hb : b3 c with
  | some x =>
    refine wpAny_execs_cons (wpAny_Return_some (rLd F2 rfl ?_))
    exact ⟨F2.keep, rfl, rfl, tv, by simp [m3, hb]⟩
  | none =>
    refine wpAny_execs_nil ?_
    refine wpAny_execs_cons (wpAny_Return_some (Call_method0 rfl rfl (rLd F2 rfl (rLower (Nat.le_trans (txt_lower_le c) (by decide)) fun t k => ?_))))
    exact ⟨F2.keep, rfl, rfl, t, by simp [m3, hb]⟩
/-- the sign of table B.1 that _law_gone gives -/
def goneC (turn : Int) : Nat := ([173, 847, 6150, 6155, 6156, 6157, 8203, 8204, 8205, 8288, 65279] ++ (List.range 16).map (65024 + ·)).getD (turn % 27).toNat 0
theorem emod_cases (turn : Int) (b : Nat) (hb : 0 < b) : ∃ n : Nat, n < b ∧ turn % (b : Int) = n := by
  have h0 := Int.emod_nonneg turn (b := b) (by omega)
  have h1 := Int.emod_lt_of_pos turn (b := b) (by omega)
  exact ⟨(turn % b).toNat, by omega, by omega⟩
theorem law_gone_ct {w : World} {mg mb : Str → Option Value} {A : Around} {s : Shared} (W : Wd w mg mb s.heap) (hA : Rm A 0) (turn : Int) (t : Tok) :
    Ct w A (.call (.ref 186) ⟨[.int turn t], []⟩) s (fun v _ => ∃ t, v = .str ⟨#[goneC turn]⟩ t) := by
  refine enter (i := 21) ["turn"] [.int turn t] W (by decide) hA.room (fun _ _ => rfl) (by decide +kernel) (by decide +kernel) ?_
  intro cd h₁ L F W1
  refine wpAny_execs_cons (wpAny_Assign_Name (wpAny_BinOp (rLd F rfl (rInt fun _ _ => rMod (by decide) fun t k => ?_))))
  rw [Int.fmod_eq_emod_of_nonneg _ (by decide)]
  obtain ⟨n, hn, e⟩ := emod_cases turn 27 (by decide)
  have e' : turn % 27 = n := e
  rw [e']
  refine rSt F fun h₂ k₂ F2 _ => ?_
  refine wpAny_execs_cons (wpAny_Return_some (wpAny_IfExp (wpAny_isTrue_Compare1 (rLd F2 rfl (rInt fun _ _ => PyProof.Rows.lt_int (wpAny_truthy_bool ?_))))))
  by_cases hlt : (n : Int) < 11
  · rw [decide_eq_true hlt]
    refine Subscript_ (rStr fun _ _ => rLd F2 rfl (rItemStr (by omega) ?_ (by omega) fun t k => ?_))
    · show (n : Int) < 11; exact hlt
    · refine ⟨F2.keep, rfl, rfl, t, ?_⟩
      have hn' : n < 11 := by omega
      unfold goneC
      rw [e']
      refine congrArg (Value.str · t) ?_
      clear F2 F e e' hlt hn
      obtain ⟨m, rfl⟩ : ∃ m : _root_.Fin 11, n = m.val := ⟨⟨n, hn'⟩, rfl⟩
      clear hn'
      revert m
      decide +kernel
  · rw [decide_eq_false hlt]
    refine Call_ (rBl (W.keeps F2.keep) (v := .builtin "chr") (by decide) ?_)
    refine PyProof.Rows.callWith_builtin1 (args_cons (wpAny_BinOp (rInt fun _ _ => rLd F2 rfl (rAdd fun _ _ => ?_))))
    refine args_nil (rChr ?_ ?_ fun t k => ?_)
    · omega
    · omega
    · refine ⟨F2.keep, rfl, rfl, t, ?_⟩
      unfold goneC
      rw [e']
      refine congrArg (Value.str · t) ?_
      have hn' : 11 ≤ n := by omega
      clear F2 F e e' hlt
      obtain ⟨m, rfl⟩ : ∃ m : _root_.Fin 27, n = m.val := ⟨⟨n, hn⟩, rfl⟩
      clear hn
      revert m
      decide +kernel
end
end Mine
namespace Mine
noncomputable section
def pairOf : Expr → Option (Int × Str)
  | .Tuple [.Constant (.int c) _ _, .Constant (.str x) _ _] _ _ => some (c, x)
  | _ => none
def pairsOf : List Expr → Option (List (Int × Str))
  | [] => some []
  | e :: r => match pairOf e, pairsOf r with
    | some p, some ps => some (p :: ps)
    | _, _ => none
def specElts : List Expr := match bd (stm 22) with
  | .Assign _ (.Subscript (.Tuple es _ _) _ _) _ :: _ => es
  | _ => []
def specL : List (Int × Str) := (pairsOf specElts).getD []
section
variable {M : Model} {A : Around} {E : Value → Shared → Prop} {env : Env} {h h₀ : Heap} {g : Array GenState} {dr : Drawn} {k : Nat} {o : OsState} {w : World}
theorem keep_trans {h₁ h₂ h₃ : Heap} (x : Keep h₁ h₂) (y : Keep h₂ h₃) : Keep h₁ h₃ := x.trans y
theorem rPairs {pos : Pos} : ∀ (es : List Expr) (ps : List (Int × Str)), pairsOf es = some ps → ∀ (h : Heap) (k : Nat) (Q : List Value → Shared → Prop),
    (∀ (h' : Heap) (k' : Nat) (vs : List Value), Keep h h' → vs.length = ps.length → (∀ (i : Nat) (p : Int × Str), ps[i]? = some p → ∃ a t u, vs[i]? = some (.ref a) ∧ IsTup h' a #[.int p.1 t, .str p.2 u]) → Q vs ⟨h', g, dr, k', o⟩) →
    wpAny M A (spliced (backTo pos (starEach es env))) Q E ⟨h, g, dr, k, o⟩
  | [], ps, e, h, k, Q, H => by
    cases e
    exact args_nil (H h k [] (Keep.refl h) rfl (fun i p hi => by simp at hi))
  | e :: r, ps, hp, h, k, Q, H => by
    unfold pairsOf at hp
    split at hp
    · rename_i p ps' h1 h2
      cases hp
      unfold pairOf at h1
      split at h1
      · cases h1
        refine args_cons (Tuple_ (args_cons (rInt fun t k => args_cons (rStr fun u k => args_nil ?_))))
        refine rNewTuple ?_ (by show 2 ≤ sizeLine; decide)
        refine rPairs r ps' h2 _ _ _ fun h' k' vs K hl hv => ?_
        refine H h' k' _ ((keep_push _ _).trans K) (by simp [hl]) fun i p hi => ?_
        cases i with
        | zero => cases hi; exact ⟨_, t, u, rfl, (tup_push h _).keeps K⟩
        | succ i => exact hv i p hi
      · cases h1
    · cases hp
end
theorem seqIndex_nat {n l : Nat} (h : n < l) : seqIndex? (n : Int) l = some n := by
  unfold seqIndex?
  have h1 : ¬ ((n : Int) < 0) := by omega
  have h2 : (n : Int) < l := by omega
  simp [h1, h2]
theorem spec_ok : pairsOf specElts = some specL ∧ specL.length = 16 ∧ specL.all (fun p => decide (0 ≤ p.1) && decide (p.1 ≤ 1114111)) = true := by
  decide +kernel
/-- _law_special: its pair for a turn -/
def specP (turn : Int) : Int × Str := specL.getD (turn % 16).toNat (0, "")
theorem law_special_ct {w : World} {mg mb : Str → Option Value} {A : Around} {s : Shared} (W : Wd w mg mb s.heap) (hA : Rm A 0) (turn : Int) (t : Tok) :
    Ct w A (.call (.ref 193) ⟨[.int turn t], []⟩) s (fun v h' => ∃ a t u, v = .ref a ∧ IsTup h' a #[.str ⟨#[(specP turn).1.toNat]⟩ t, .str (specP turn).2 u]) := by
  refine enter (i := 22) ["turn"] [.int turn t] W (by decide) hA.room (fun _ _ => rfl) (by decide +kernel) (by decide +kernel) ?_
  intro cd h₁ L F W1
  obtain ⟨n, hn, e⟩ := emod_cases turn 16 (by decide)
  have e' : turn % 16 = n := e
  refine wpAny_execs_cons ?_
  refine Assign_Tuple ?_ (hs := ?hs) (hw := ?hw)
  case hs => kernel_rfl!
  case hw => kernel_rfl!
  refine Subscript_ ?_
  refine Tuple_ ?_
  refine rPairs _ specL ?_ _ _ _ ?_
  · decide +kernel
  intro h₂ k₂ vs K hl hv
  refine rNewTuple ?_ (by rw [hl, spec_ok.2.1]; decide)
  refine wpAny_BinOp (rLd (Frk F (K.trans (keep_push _ _))) rfl (rInt fun _ _ => rMod (by decide) fun t k => ?_))
  rw [Int.fmod_eq_emod_of_nonneg _ (by decide), e']
  obtain ⟨p, hp⟩ : ∃ p, specL[n]? = some p := ⟨_, List.getElem?_eq_getElem (by rw [spec_ok.2.1]; exact hn)⟩
  have hsp : specP turn = p := by unfold specP; rw [e', Int.toNat_natCast, List.getD_eq_getElem?_getD, hp]; rfl
  obtain ⟨a, tc, tx, hva, hta⟩ := hv n p hp
  refine item_tupleT (j := n) (tup_push h₂ vs) (by omega) (by omega) ?_ hva ?_
  · rw [hl, spec_ok.2.1]
    exact seqIndex_nat hn
  refine assign_Tuple_tuple hA.hd (hta.keeps (keep_push _ _)) rfl rfl fun h₃ he => ?_
  refine assignInOrder_cons (assign_Name (rSt (Frk F (fun b o e => he b o (Nat.ne_of_lt (Heap.lt_size ((K.trans (keep_push _ _)) b o e))) ((K.trans (keep_push _ _)) b o e))) fun h₄ k₄ F4 _ => ?_))
  refine assignInOrder_cons (assign_Name (rSt F4 fun h₅ k₅ F5 _ => assignInOrder_nil ?_))
  refine wpAny_execs_cons (wpAny_Return_some (Tuple_ (args_cons (Call_ (rBl (W.keeps F5.keep) (v := .builtin "chr") (by decide) ?_)))))
  have hr := List.all_eq_true.mp spec_ok.2.2 p (List.mem_of_getElem? hp)
  simp only [Bool.and_eq_true, decide_eq_true_eq] at hr
  refine PyProof.Rows.callWith_builtin1 (args_cons (rLd F5 rfl (args_nil (rChr hr.1 hr.2 fun t k => ?_))))
  refine args_cons (rLd F5 rfl (args_nil (rNewTuple ?_ (by show 2 ≤ sizeLine; decide))))
  refine ⟨Keep.trans F5.keep (keep_push _ _), rfl, rfl, _, t, tx, rfl, ?_⟩
  rw [hsp]
  exact tup_push h₅ _
end
end Mine
namespace Mine
noncomputable section
theorem kind_isn : builtinKind "issubclass.nested" = none := by decide +kernel
theorem plain_isn : plainId "issubclass.nested" = true := by decide +kernel
theorem args_isn (a b c : Value) : argsOk "issubclass.nested" ⟨[a, b, c], []⟩ := by unfold argsOk; kernel_rfl!
section
variable {w : World} {A : Around} {E : Value → Shared → Prop} {s : Shared}
theorem sub_str : isSubtype (.type "str") (.type "str") = pure true := by rw [isSubtype_type]; kernel_rfl!
theorem type_str : (typeOf (.type "str")) = pure (.type "type") := by kernel_rfl!
theorem isn_str {dep : Int} {tk : Tok} : Meets (Builtin.«issubclass.nested» ⟨[.type "str", .type "str", .int dep tk], []⟩) (fun _ R s => R (.ok (.ret (.bool true))) s) := by
  intro prog w A R s hs
  have f1 := sub_str
  have f2 := type_str
  repeat (any_goals (first | assumption | wp_step))
theorem isn_tuple {prog : Program} {tp : Addr} {tk : Tok} {Q : PySem.Fin → Shared → Prop} (htp : IsTup s.heap tp #[.type "str", .type "bytes"]) (hq : Q (.done (.ret (.bool true))) s) :
    wpAny (model prog w) A (Builtin.«issubclass.nested» ⟨[.type "str", .ref tp, .int 0 tk], []⟩) Q E s := by
  obtain ⟨h, g, d, t, os⟩ := s
  obtain ⟨ob, h1, h2, n, h3⟩ := htp
  obtain ⟨oc, od, dt, sl⟩ := ob
  simp only at h2 h3
  subst h2 h3
  have hT2 : (⟨h, g, d, t, os⟩ : Shared).TypeIs (.ref tp) "tuple" := ⟨_, h1, rfl⟩
  have f1 := F.isi_sub_tuple
  repeat (any_goals (first | assumption | ((fail_if_success (with_reducible refine wpAny_call ?_)); wp_step)))
  refine call_function_meets kind_isn plain_isn F.entry_issubclass_nested (args_isn _ _ _) isn_str ?_
  repeat (any_goals (first | assumption | wp_step))
theorem rIssub {tp : Addr} {Q : Value → Shared → Prop} (htp : IsTup s.heap tp #[.type "str", .type "bytes"]) (hq : Q (.bool true) s) :
    wpAny (model prog w) A (call (.builtin "issubclass") [.type "str", .ref tp]) Q E s :=
  call_issubclass (S := fun _ R s => IsTup s.heap tp #[.type "str", .type "bytes"] ∧ R (.ok (.ret (.bool true))) s) (fun _ _ _ _ _ hs => issubclass_outer (isn_tuple hs.1 hs.2)) ⟨htp, hq⟩
end
theorem fspath_ct {w : World} {mg mb : Str → Option Value} {A : Around} {s : Shared} (W : Wd w mg mb s.heap) (hA : Rm A 0) (x : Str) (t : Tok) :
    Ct w A (.call (.ref 94) ⟨[.str x t], []⟩) s (fun v _ => v = .str x t) := by
  refine enter (i := 9) ["path"] [.str x t] W (by decide) hA.room (fun _ _ => rfl) (by decide +kernel) (by decide +kernel) ?_
  intro cd h₁ L F W1
  refine wpAny_execs_cons (wpAny_Assign_Name (Call_ (rBl W1 (v := .type "type") (by decide) ?_)))
  refine PyProof.Rows.callWith_type1 (args_cons (rLd F rfl (args_nil (call_type_of (typeIs_str _ _ _) (by decide) ?_))))
  refine rSt F fun h₂ k₂ F2 _ => ?_
  have W2 := W.keeps F2.keep
  refine wpAny_execs_cons (wpAny_If (wpAny_isTrue_value (Call_ (rBl W2 (v := .builtin "issubclass") (by decide) ?_)) (by rfl)))
  refine PyProof.Rows.callWith_builtin1 (args_cons (rLd F2 rfl (args_cons (Tuple_ (args_cons (rBl W2 (v := .type "str") (by decide) (args_cons (rBl W2 (v := .type "bytes") (by decide) (args_nil ?_)))))))))
  refine rNewTuple ?_ (by show 2 ≤ sizeLine; decide)
  refine args_nil (rIssub (tup_push h₂ _) (wpAny_truthy_bool ?_))
  refine wpAny_execs_cons (wpAny_Return_some (rLd (Frk F2 (keep_push _ _)) rfl ?_))
  exact ⟨Keep.trans F2.keep (keep_push _ _), rfl, rfl, rfl⟩
end
end Mine
namespace Mine
noncomputable section
theorem sub_str_bytes : isSubtype (.type "str") (.type "bytes") = pure false := by rw [isSubtype_type]; kernel_rfl!
theorem type_bytes : (typeOf (.type "bytes")) = pure (.type "type") := by kernel_rfl!
theorem get_sep_ct {w : World} {mg mb : Str → Option Value} {A : Around} {s : Shared} (W : Wd w mg mb s.heap) (hA : Rm A 0) (x : Str) (t : Tok) :
    Ct w A (.call (.ref 108) ⟨[.str x t], []⟩) s (fun v _ => ∃ t, v = .str "/" t) := by
  refine enter (i := 13) ["path"] [.str x t] W (by decide) hA.room (fun _ _ => rfl) (by decide +kernel) (by decide +kernel) ?_
  intro cd h₁ L F W1
  refine wpAny_execs_cons (wpAny_If (wpAny_isTrue_value (Call_ (rBl W1 (v := .builtin "isinstance") (by decide) ?_)) (by rfl)))
  refine PyProof.Rows.callWith_builtin1 (args_cons (rLd F rfl (args_cons (rBl W1 (v := .type "bytes") (by decide) (args_nil ?_)))))
  refine call_isinstance (isinstance_false_str (by decide) type_bytes sub_str_bytes) ?_
  refine wpAny_truthy_bool (wpAny_execs_cons (wpAny_Return_some (rStr fun t k => ?_)))
  exact ⟨F.keep, rfl, rfl, t, rfl⟩
end
end Mine
namespace Mine
noncomputable section
def Kb (L : Addr) (h h' : Heap) : Prop := ∀ b o, b ≠ L → h.get? b = some o → h'.get? b = some o
theorem Kb.refl (L : Addr) (h : Heap) : Kb L h h := fun _ _ _ e => e
theorem Kb.trans {L : Addr} {a b c : Heap} (x : Kb L a b) (y : Kb L b c) : Kb L a c := fun i o n e => y i o n (x i o n e)
theorem Kb.keep {L : Addr} {a b c : Heap} (x : Kb L a b) (y : Keep b c) : Kb L a c := fun i o n e => y i o (x i o n e)
theorem Kb.same {L : Addr} {a b c : Heap} (x : Kb L a b) (y : Heap.SameBut L b c) : Kb L a c := fun i o n e => (y.2 i n).trans (x i o n e)
section
variable {w : World} {A : Around} {env : Env} {s : Shared}
/-- a for loop over a walk -/
theorem for_walk {target iter : Expr} {body : List Stmt} {pos : Pos} {Q : Flow → Shared → Prop} (J : Nat → Shared → Prop)
    (h : wpAny (model prog w) A (eval iter env) (fun xv s₁ => wpAny (model prog w) A (pyIter xv) (fun it s₂ => ∃ I fp wr n P St, it = .ref I ∧ Walks prog w A I fp wr n P St ∧ St 0 s₂.heap ∧ J 0 s₂ ∧
      (∀ i s₃ v h' tk, i < n → St i s₃.heap → J i s₃ → P i v → St (i + 1) h' → (∀ b o, b ∉ wr → s₃.heap.get? b = some o → h'.get? b = some o) →
        wpAny (model prog w) A (letOwnedTupleGo target (.ref I) v) (fun _ s₄ => wpAny (model prog w) A (assign target env v) (fun _ s₅ => wpAny (model prog w) A (execs body env) (fun f s₆ => match f with
          | .next | .cont => St (i + 1) s₆.heap ∧ J (i + 1) s₆
          | .brk => Q .next s₆
          | .ret v => Q (.ret v) s₆) No s₅) No s₄) No { s₃ with heap := h', toks := tk }) ∧
      (∀ s₃ h' tk, St n s₃.heap → J n s₃ → (∀ b o, b ∉ wr → s₃.heap.get? b = some o → h'.get? b = some o) → Q .next { s₃ with heap := h', toks := tk })) No s₁) No s)
    (hs : ∀ x, foldedSetIterable iter env x = pure x := by intro _; rfl) : wpAny (model prog w) A (exec (.For target iter body [] pos) env) Q No s := by
  refine wpAny_For (wpAny_mono h (fun xv s₁ h₁ => wpAny_mono h₁ (fun it s₂ h₂ => ?_) fun _ _ e => e) fun _ _ e => e) hs
  obtain ⟨I, fp, wr, n, P, St, rfl, W, h0, j0, turn, fin⟩ := h₂
  refine codeAny_forLoop_any (fun m s => ∃ i, m = n - i + 1 ∧ i ≤ n ∧ St i s.heap ∧ J i s) ?_ (n + 1) ⟨0, by omega, by omega, h0, j0⟩
  rintro m s₃ ⟨i, rfl, hi, hst, hj⟩
  by_cases hlt : i < n
  · refine W.item i s₃ _ _ hlt hst fun v h' tk hP hst' hk => ?_
    refine wpAny_mono (turn i s₃ v h' tk hlt hst hj hP hst' hk) (fun _ s₄ h₄ => ?_) fun _ _ e => e.elim
    refine wpAny_mono h₄ (fun _ s₅ h₅ => ?_) fun _ _ e => e.elim
    refine wpAny_mono h₅ (fun f s₆ h₆ => ?_) fun _ _ e => e.elim
    cases f with
    | next => exact ⟨n - (i + 1) + 1, by omega, i + 1, rfl, by omega, h₆.1, h₆.2⟩
    | cont => exact ⟨n - (i + 1) + 1, by omega, i + 1, rfl, by omega, h₆.1, h₆.2⟩
    | brk => exact h₆
    | ret v => exact h₆
  · obtain rfl : i = n := by omega
    refine W.done s₃ _ _ hst fun h' tk hk => ?_
    exact wpAny_execs_nil (fin s₃ h' tk hst hj hk)
end
end
end Mine
namespace Mine
noncomputable section
section
variable {M : Model} {A : Around} {E : Value → Shared → Prop} {env : Env} {h h₀ : Heap} {g : Array GenState} {dr : Drawn} {k : Nat} {o : OsState} {Q : Value → Shared → Prop} {U : Unit → Shared → Prop} {w : World}
  {n : Str} {scope : Scope} {L a : Addr} {cd : Value} {m : Str → Option Value} {mg mb : Str → Option Value} {P : Value → Heap → Prop}
theorem rCt {f : Value} {args : List Value} (c : Ct w A (.call f ⟨args, []⟩) ⟨h, g, dr, k, o⟩ P) (H : ∀ v h' dr' k', Keep h h' → P v h' → Q v ⟨h', g, dr', k', o⟩) : wpAny (model prog w) A (call f args) Q E ⟨h, g, dr, k, o⟩ :=
  call_ct c fun v s' K hg ho p => by
    obtain ⟨h', g', dr', k', o'⟩ := s'
    simp only at hg ho
    subst hg ho
    exact H v h' dr' k' K p
theorem rDef1 {f : Str} {b i : Nat} {e : Expr} {np pos : Pos} (W : Wd w mg mb h) (hg : (f, .ref b) ∈ globL) (hf : (b, i) ∈ fnL)
    (he : wpAny (model prog w) A (eval e (envOf n scope L a cd)) (fun v s₁ => Keep h s₁.heap ∧ wpAny (model prog w) A (call (.ref b) [v]) Q E s₁) E ⟨h, g, dr, k, o⟩)
    (hk : scope.kind = .function := by rfl) (hx : (envOf n scope L a cd).kindOf f = some .globalImplicit := by rfl)
    (hd : (f == ("__debug__" : Str)) = false := by decide) (hs : starEach [e] (envOf n scope L a cd) = (false, eval e (envOf n scope L a cd)) :: starEach [] (envOf n scope L a cd) := by rfl)
    (hc : eval (.Call (.Name f np) [e] [] pos) (envOf n scope L a cd) = (do callWith pos (← eval (.Name f np) (envOf n scope L a cd)) [] (backTo pos (starEach [e] (envOf n scope L a cd))) (backToKw pos (keywordEach [] (envOf n scope L a cd)))) := by rfl) :
    wpAny (model prog w) A (eval (.Call (.Name f np) [e] [] pos) (envOf n scope L a cd)) Q E ⟨h, g, dr, k, o⟩ := by
  obtain ⟨ob, pm, c, ho, hdt, _⟩ := W.fn (b, i) hf
  refine Call_ (rGl W hg ?_ hk hx hd) hc
  exact PyProof.Rows.callWith_def hdt (args_cons (wpAny_mono he (fun v s₁ x => args_nil ⟨x.1 _ _ ho, x.2⟩) fun _ _ x => x) hs) hs
theorem rTruthyStr {x : Str} {t : Tok} {B : Bool → Shared → Prop} (hsz : x.length ≤ sizeLine) (H : ∀ k', B ((x.length : Int) != 0) ⟨h, g, dr, k', o⟩) : wpAny (model prog w) A (truthy (.str x t)) B E ⟨h, g, dr, k, o⟩ :=
  PySem.P.truthy_str (by have : sizeLine = 16777216 := rfl; omega) (H _)
theorem rAddS {x y : Str} {t u : Tok} (hsz : x.length + y.length ≤ sizeLine) (H : ∀ t k', Q (.str (x ++ y) t) ⟨h, g, dr, k', o⟩) : wpAny (model prog w) A (binaryOp .Add (.str x t) (.str y u)) Q E ⟨h, g, dr, k, o⟩ :=
  PyProof.Rows.add_str (fun t k => H t k) hsz
theorem rIaddS {x y : Str} {t u : Tok} (hsz : x.length + y.length ≤ sizeLine) (H : ∀ t k', Q (.str (x ++ y) t) ⟨h, g, dr, k', o⟩) : wpAny (model prog w) A (inplaceOp .Add (.str x t) (.str y u)) Q E ⟨h, g, dr, k, o⟩ :=
  PyProof.Rows.iadd_str (fun t k => H t k) hsz
end
theorem enterV {w : World} {mg mb : Str → Option Value} {A : Around} {s : Shared} {P : Value → Heap → Prop} {a i : Nat} {args rest : List Value} (ns : List Str) (vs : List Value) (W : Wd w mg mb s.heap) (hf : (a, i) ∈ fnL) (hA : A.depth < 1000)
    (hsz : rest.length ≤ sizeLine)
    (hbind : ∀ pm cd, bindArgs (docDef (nm (stm i)) (pr (stm i)) (bd (stm i)) (sc (stm i)) pm cd .none) ⟨args, []⟩ = (do let t ← newTuple rest; pure (ns.zip (vs ++ [t]))))
    (hloc : ns.all (fun x => decide ((sc (stm i)).names.lookup x = some .local)) = true)
    (hsc : (!(sc (stm i)).isCoroutine && !(sc (stm i)).isGenerator && decide ((sc (stm i)).kind = .function) && (sc (stm i)).names.all (fun x => decide (x.2 ≠ .cell))) = true)
    (body : ∀ cd h₀ h₁ L, Keep s.heap h₀ → IsTup h₀ s.heap.objs.size rest.toArray → Fr h₀ L h₁ (fun x => (ns.zip (vs ++ [.ref s.heap.objs.size])).reverse.lookup x) → Wd w mg mb h₀ → ∀ k, wpAny (model prog w) (A.deeper (envOf (nm (stm i)) (sc (stm i)) L a cd)) (execs (bd (stm i)) (envOf (nm (stm i)) (sc (stm i)) L a cd))
      (Rt s P) No ⟨h₁, s.gens, s.drawn, k, s.os⟩) : Ct w A (.call (.ref a) ⟨args, []⟩) s P := by
  obtain ⟨h, g, dr, k, os⟩ := s
  obtain ⟨o, pm, cd, ho, hd, hcd⟩ := W.fn (a, i) hf
  simp only [Bool.and_eq_true, Bool.not_eq_true', decide_eq_true_eq, List.all_eq_true] at hsc
  obtain ⟨⟨⟨h1, h2⟩, h3⟩, h4⟩ := hsc
  refine codeAny_call_function hA ho hd h1 h2 rfl hcd ?_
  rw [hbind pm cd]
  refine wpAny_bind (rNewTuple ?_ hsz)
  refine wpAny_pure (wpAny_newFunctionEnv h4 (fun x hx => of_decide_eq_true (List.all_eq_true.mp hloc x.1 (List.of_mem_zip hx).1)) (fun h₁ hns hsb => ⟨(W.nolimit.keeps (keep_push _ _)).fresh _ hsb, ?_⟩) h3)
  show codeAny _ _ (.func (bd (stm i)) (envOf (nm (stm i)) (sc (stm i)) _ a cd)) _ _
  refine codeAny_func ?_
  refine wpAny_mono (body cd _ h₁ _ (keep_push h _) (tup_push h rest) ⟨hns, fun b o e => hsb.extBut b o (Nat.ne_of_lt (Heap.lt_size e)) (Heap.get?_push_of_some _ e), Nat.le_refl _⟩ (W.keeps (keep_push _ _)) _) (fun f s' hh => ⟨_, rfl, hh⟩) fun _ _ x => x.elim
def joinStep (p b : Str) : Str := if Txt.startswith b "/" || p.length == 0 then b else if Txt.endswith p "/" then p ++ b else p ++ ("/" ++ b)
def joinF (x : Str) (l : List Str) : Str := l.foldl joinStep x
def sumLen (l : List Str) : Nat := (l.map fun y => y.length + 1).sum
theorem joinStep_le (p b : Str) : (joinStep p b).length ≤ p.length + (b.length + 1) := by
  unfold joinStep
  split
  · omega
  · split
    · rw [Str.length_append]; omega
    · rw [Str.length_append, Str.length_append]; show _ + (1 + _) ≤ _; omega
theorem joinF_le (l : List Str) : ∀ x : Str, (joinF x l).length ≤ x.length + sumLen l := by
  induction l with
  | nil => intro x; exact Nat.le_add_right _ _
  | cons b r ih =>
    intro x
    have h1 := ih (joinStep x b)
    have h2 := joinStep_le x b
    show (joinF (joinStep x b) r).length ≤ x.length + ((b.length + 1) + sumLen r)
    omega
theorem sumLen_take (l : List Str) (i : Nat) : sumLen (l.take i) ≤ sumLen l := by
  induction l generalizing i with
  | nil => simp [sumLen]
  | cons b r ih =>
    cases i with
    | zero => simp [sumLen]
    | succ i => have := ih i; simp only [List.take_succ_cons, sumLen, List.map_cons, List.sum_cons] at *; omega
theorem Frb {h₀ h h' : Heap} {L I : Addr} {m : Str → Option Value} (F : Fr h₀ L h m) (hk : ∀ b o, b ∉ [I] → h.get? b = some o → h'.get? b = some o) (hI : h₀.get? I = none) (hL : L ≠ I) : Fr h₀ L h' m := by
  obtain ⟨o, es, ep, h1, r⟩ := F.ns
  exact ⟨⟨o, es, ep, hk L o (by simp [hL]) h1, r⟩, fun b o e => hk b o (by simp; rintro rfl; rw [hI] at e; cases e) (F.keep b o e), F.above⟩
theorem frLt {h₀ h : Heap} {L : Addr} {m : Str → Option Value} (F : Fr h₀ L h m) : L < h.objs.size := F.ns.lt
theorem frNew {h₀ h : Heap} {L : Addr} {m : Str → Option Value} (F : Fr h₀ L h m) : h₀.get? h.objs.size = none := by
  cases e : h₀.get? h.objs.size with
  | none => rfl
  | some o => exact absurd (Heap.lt_size (F.keep _ _ e)) (Nat.lt_irrefl _)
theorem frOld {h₀ h : Heap} {L a : Addr} {m : Str → Option Value} {o : Obj} (F : Fr h₀ L h m) (e : h₀.get? a = some o) : a ≠ L := Nat.ne_of_lt (Nat.lt_of_lt_of_le (Heap.lt_size e) F.above)
theorem join_ct {w : World} {mg mb : Str → Option Value} {A : Around} {s : Shared} (W : Wd w mg mb s.heap) (hA : Rm A 1) (x : Str) (t : Tok) (l : List (Str × Tok)) (hl : l.length ≤ 1000)
    (hb : x.length + sumLen (l.map (·.1)) ≤ 1000000) :
    Ct w A (.call (.ref 115) ⟨.str x t :: l.map (fun y => .str y.1 y.2), []⟩) s (fun v _ => ∃ t, v = .str (joinF x (l.map (·.1))) t) := by
  refine enterV (i := 14) (rest := l.map (fun y => .str y.1 y.2)) ["a", "p"] [.str x t] W (by decide) hA.room (by rw [List.length_map]; have : sizeLine = 16777216 := rfl; omega) (fun _ _ => ?_) (by decide +kernel) (by decide +kernel) ?_
  · cases l with
    | nil => kernel_rfl!
    | cons y r => kernel_rfl!
  intro cd h₀ h₁ L K0 T0 F W0 k
  have R1 : Rm (A.deeper (envOf (nm (stm 14)) (sc (stm 14)) L 115 cd)) 0 := hA.deeper
  have W1 := W0.keeps F.keep
  refine wpAny_execs_cons (wpAny_Assign_Name (rDef1 (b := 94) (i := 9) W1 (by decide) (by decide) (rLd F rfl ⟨Keep.refl _, rCt (fspath_ct W1 R1 x t) ?_⟩)))
  rintro v h₂ d₂ k₂ K2 rfl
  refine rSt (Frk F K2) fun h₃ k₃ F3 _ => ?_
  have W3 := W0.keeps F3.keep
  refine wpAny_execs_cons (wpAny_Assign_Name (rDef1 (b := 108) (i := 13) W3 (by decide) (by decide) (rLd F3 rfl ⟨Keep.refl _, rCt (get_sep_ct W3 R1 x t) ?_⟩)))
  rintro v h₄ d₄ k₄ K4 ⟨ts, rfl⟩
  refine rSt (Frk F3 K4) fun h₅ k₅ F5 _ => ?_
  refine wpAny_execs_cons (wpAny_Assign_Name (rLd F5 rfl (rSt F5 fun h₆ k₆ F6 _ => ?_)))
  refine wpAny_execs_cons (wpAny_Try_except ?_)
  refine wpAny_mono (E := No) ?_ (fun _ _ x => x) fun _ _ x => x.elim
  refine wpAny_execs_cons ?_
  refine for_walk (fun i s' => ∃ h dr k m u, s' = ⟨h, s.gens, dr, k, s.os⟩ ∧ Fr h₀ L h m ∧ m "path" = some (.str (joinF x ((l.map (·.1)).take i)) u) ∧ m "sep" = some (.str "/" ts)) ?_
  refine rLd F6 rfl ?_
  refine wpAny_pyIter_tuple (IsTup.keeps T0 F6.keep) ?_
  refine ⟨h₆.objs.size, [h₆.objs.size, s.heap.objs.size], [h₆.objs.size], _, _, _, rfl, Walks.tuple R1.hd h₆.objs.size s.heap.objs.size ?_ _, ⟨⟨_, Heap.get?_push_size _ rfl, rfl, rfl⟩, IsTup.keeps T0 (Keep.trans F6.keep (keep_push _ _))⟩, ?_, ?_, ?_⟩
  · obtain ⟨ot, hot, _⟩ := T0
    exact Nat.ne_of_lt (Heap.lt_size (F6.keep _ _ hot))
  · exact ⟨_, _, _, _, _, rfl, Frk F6 (keep_push _ _), rfl, rfl⟩
  · rintro i s₃ v h' tk hi hst ⟨h, dr, k, m, u, rfl, Fh, hpath, hsep⟩ hP hst' hk
    have Wk := Walks.tuple (prog := prog) (w := w) R1.hd h₆.objs.size s.heap.objs.size (by obtain ⟨ot, hot, _⟩ := T0; exact Nat.ne_of_lt (Heap.lt_size (F6.keep _ _ hot))) (l.map (fun y => Value.str y.1 y.2)).toArray
    have hLI : L ≠ h₆.objs.size := Nat.ne_of_lt (frLt F6)
    have hLt : s.heap.objs.size ≠ L := by obtain ⟨ot, hot, _⟩ := T0; exact frOld F6 hot
    have F' : Fr h₀ L h' m := Frb Fh hk (frNew F6) hLI
    obtain ⟨y, ty, hy, rfl⟩ : ∃ y ty, l[i]? = some (y, ty) ∧ v = .str y ty := by
      simp only [List.getElem?_toArray, List.getElem?_map, Option.map_eq_some_iff] at hP
      obtain ⟨⟨y, ty⟩, h1, rfl⟩ := hP
      exact ⟨y, ty, h1, rfl⟩
    refine wpAny_pure (PyProof.Rows.assign_Name (rSt F' fun a₁ k₁ G1 B1 => ?_))
    have Wa := W0.keeps G1.keep
    refine wpAny_execs_cons (wpAny_Assign_Name (rDef1 (b := 94) (i := 9) Wa (by decide) (by decide) (rLd G1 rfl ⟨Keep.refl _, rCt (fspath_ct Wa R1 y ty) ?_⟩)))
    rintro v a₂ d₂ k₂ K2 rfl
    refine rSt (Frk G1 K2) fun a₃ k₃ G3 B3 => ?_
    refine wpAny_execs_cons (wpAny_If (wpAny_isTrue_BoolOp (wpAny_allTrue_Or_cons (wpAny_isTrue_value (Call_method1 rfl rfl rfl (rLd G3 rfl (SB.startswith (rLd G3 hsep ⟨_, _, rfl, wpAny_truthy_bool ?_⟩))))))))
    have hstp : joinF x ((l.map (·.1)).take (i + 1)) = joinStep (joinF x ((l.map (·.1)).take i)) y := by
      have e : (l.map (·.1))[i]? = some y := by rw [List.getElem?_map, hy]; rfl
      rw [List.take_succ, e]
      simp [joinF]
    have hle : (joinF x ((l.map (·.1)).take i)).length + (y.length + 1) ≤ 1000001 := by
      have e : (l.map (·.1))[i]? = some y := by rw [List.getElem?_map, hy]; rfl
      have q1 := joinF_le ((l.map (·.1)).take i) x
      have q2 := sumLen_take (l.map (·.1)) (i + 1)
      rw [List.take_succ, e] at q2
      simp only [sumLen, Option.toList_some, List.map_append, List.map_cons, List.map_nil, List.sum_append, List.sum_cons, List.sum_nil] at q1 q2 hb
      omega
    have key : ∀ (h₉ : Heap) (d₉ : Drawn) (k₉ : Nat) (u₉ : Tok) (m₉ : Str → Option Value), Fr h₀ L h₉ m₉ → Kb L h' h₉ → m₉ "path" = some (.str (joinStep (joinF x ((l.map (·.1)).take i)) y) u₉) → m₉ "sep" = some (.str "/" ts) →
        (h₉.IsTupleIter h₆.objs.size s.heap.objs.size (i + 1) ∧ h₉.IsTuple s.heap.objs.size (l.map (fun y => Value.str y.1 y.2)).toArray) ∧ ∃ h dr k m u, (⟨h₉, s.gens, d₉, k₉, s.os⟩ : Shared) = ⟨h, s.gens, dr, k, s.os⟩ ∧ Fr h₀ L h m ∧ m "path" = some (.str (joinF x ((l.map (·.1)).take (i + 1))) u) ∧ m "sep" = some (.str "/" ts) := by
      intro h₉ d₉ k₉ u₉ m₉ F9 B9 e1 e2
      refine ⟨Wk.frame (i + 1) h' h₉ hst' fun b hb ob e => B9 b ob ?_ e, h₉, d₉, k₉, m₉, u₉, rfl, F9, ?_, e2⟩
      · simp only [List.mem_cons, List.not_mem_nil, or_false] at hb
        rcases hb with rfl | rfl
        · exact hLI.symm
        · exact hLt
      · rw [hstp]; exact e1
    have B03 : Kb L h' a₃ := (((Kb.refl L h').same B1).keep K2).same B3
    cases hs1 : Txt.startswith y "/" with
    | true =>
      refine wpAny_execs_cons (wpAny_Assign_Name (rLd G3 rfl (rSt G3 fun a₄ k₄ G4 B4 => wpAny_execs_nil ?_)))
      refine wpAny_execs_nil (key a₄ _ _ ty _ G4 (B03.same B4) ?_ ?_)
      · simp [joinStep, hs1]
      · exact hsep
    | false =>
      refine wpAny_allTrue_Or_cons (wpAny_isTrue_Not (wpAny_isTrue_value (rLd G3 hpath (rTruthyStr ?_ fun k => ?_))))
      · have : sizeLine = 16777216 := rfl; omega
      by_cases h0 : (joinF x ((l.map (·.1)).take i)).length = 0
      · have e0 : (!(((joinF x ((l.map (·.1)).take i)).length : Int) != 0)) = true := by rw [h0]; rfl
        rw [e0]
        refine wpAny_execs_cons (wpAny_Assign_Name (rLd G3 rfl (rSt G3 fun a₄ k₄ G4 B4 => wpAny_execs_nil ?_)))
        refine wpAny_execs_nil (key a₄ _ _ ty _ G4 (B03.same B4) ?_ ?_)
        · simp [joinStep, h0]
        · exact hsep
      · have e0 : (!(((joinF x ((l.map (·.1)).take i)).length : Int) != 0)) = false := by simp; omega
        rw [e0]
        refine wpAny_allTrue_Or_nil ?_
        refine wpAny_execs_cons (wpAny_If (wpAny_isTrue_value (Call_method1 rfl rfl rfl (rLd G3 hpath (SB.endswith (rLd G3 hsep ⟨_, _, rfl, wpAny_truthy_bool ?_⟩))))))
        have z : sizeLine = 16777216 := rfl
        cases hs2 : Txt.endswith (joinF x ((l.map (·.1)).take i)) "/" with
        | true =>
          refine wpAny_execs_cons (wpAny_AugAssign_Name (ldn (s := ⟨a₃, _, _, _, _⟩) G3 hpath (rLd G3 rfl (rIaddS (by omega) fun t k => rSt G3 fun a₄ k₄ G4 B4 => wpAny_execs_nil ?_))))
          refine wpAny_execs_nil (wpAny_execs_nil (key a₄ _ _ t _ G4 (B03.same B4) ?_ ?_))
          · simp [joinStep, hs1, hs2, h0]
          · exact hsep
        | false =>
          refine wpAny_execs_cons (wpAny_AugAssign_Name (ldn (s := ⟨a₃, _, _, _, _⟩) G3 hpath (wpAny_BinOp (rLd G3 hsep (rLd G3 rfl (rAddS (by show 1 + _ ≤ _; omega) fun t1 k1 => rIaddS (by rw [Str.length_append]; show _ + (1 + _) ≤ _; omega) fun t k => rSt G3 fun a₄ k₄ G4 B4 => wpAny_execs_nil ?_))))))
          refine wpAny_execs_nil (wpAny_execs_nil (key a₄ _ _ t _ G4 (B03.same B4) ?_ ?_))
          · simp [joinStep, hs1, hs2, h0]
          · exact hsep
  · rintro s₃ h' tk hst ⟨h, dr, k, m, u, rfl, Fh, hpath, hsep⟩ hk
    have hLI : L ≠ h₆.objs.size := Nat.ne_of_lt (frLt F6)
    have F' : Fr h₀ L h' m := Frb Fh hk (frNew F6) hLI
    refine wpAny_execs_nil (wpAny_execs_nil ?_)
    refine wpAny_execs_cons (wpAny_Return_some (rLd F' hpath ?_))
    refine ⟨Keep.trans K0 F'.keep, rfl, rfl, u, ?_⟩
    show Value.str (joinF x ((l.map (·.1)).take _)) u = _
    rw [List.take_of_length_le (by simp)]
end
end Mine
namespace Mine
noncomputable section
section
variable {M : Model} {A : Around} {E : Value → Shared → Prop} {env : Env} {h h₀ : Heap} {g : Array GenState} {dr : Drawn} {k : Nat} {o : OsState} {Q : Value → Shared → Prop} {U : Unit → Shared → Prop} {w : World}
  {n : Str} {scope : Scope} {L a : Addr} {cd : Value} {m : Str → Option Value} {mg mb : Str → Option Value} {P : Value → Heap → Prop}
theorem keptKeep (h : Heap) : KeptH (Keep h) := fun _ ob K => K.trans (keep_push _ ob)
theorem rTailNs {value slice : Expr} {x : Str} {t uj : Tok} {j : Int} (hsz : x.length ≤ sizeLine) (H : ∀ h' t' k', Keep h h' → Q (.str (Txt.slice x none (some j)) t') ⟨h', g, dr, k', o⟩)
    (hs : subscripted slice false (.str x t) (.ref h.objs.size) = operate [.ref h.objs.size, .str x t] (getItem (.str x t) (.ref h.objs.size)) := by with_unfolding_all rfl)
    (ht : ∀ r, letTemporaryGo value (.str x t) r = pure () := by intro _; with_unfolding_all rfl) :
    wpAny (model prog w) A (subscriptTail value slice (.str x t) (.ref h.objs.size)) Q E ⟨h.push { cls := .type "slice", data := .fields #[.none, .int j uj, .none] }, g, dr, k, o⟩ :=
  tail_of_ItemOn (SBH.sliceItem_ns (s := ⟨h, g, dr, k, o⟩) (keptKeep h) (Keep.refl h) (fun h' t' k' K => H h' t' k' K) hsz) hs ht
theorem rTailSn {value slice : Expr} {x : Str} {t uj : Tok} {j : Int} (hsz : x.length ≤ sizeLine) (H : ∀ h' t' k', Keep h h' → Q (.str (Txt.slice x (some j) none) t') ⟨h', g, dr, k', o⟩)
    (hs : subscripted slice false (.str x t) (.ref h.objs.size) = operate [.ref h.objs.size, .str x t] (getItem (.str x t) (.ref h.objs.size)) := by with_unfolding_all rfl)
    (ht : ∀ r, letTemporaryGo value (.str x t) r = pure () := by intro _; with_unfolding_all rfl) :
    wpAny (model prog w) A (subscriptTail value slice (.str x t) (.ref h.objs.size)) Q E ⟨h.push { cls := .type "slice", data := .fields #[.int j uj, .none, .none] }, g, dr, k, o⟩ :=
  tail_of_ItemOn (SBH.sliceItem_sn (s := ⟨h, g, dr, k, o⟩) (keptKeep h) (Keep.refl h) (fun h' t' k' K => H h' t' k' K) hsz) hs ht
theorem rNeg {a : Int} {t : Tok} (H : ∀ t k', Q (.int (-a) t) ⟨h, g, dr, k', o⟩) : wpAny (model prog w) A (unaryOp .USub (.int a t)) Q E ⟨h, g, dr, k, o⟩ := PyProof.Rows.neg_int (H _ _)
/-- x[:1] of a local text -/
theorem rHead1 {v : Str} {x : Str} {t : Tok} {np sp pos ip : Pos} {kk : Nat} (F : Fr h₀ L h m) (hv : m v = some (.str x t)) (hsz : x.length ≤ sizeLine) (H : ∀ h' t' k', Keep h h' → Q (.str (Txt.slice x none (some 1)) t') ⟨h', g, dr, k', o⟩)
    (hk : scope.kind = .function := by rfl) (hl : (envOf n scope L a cd).kindOf v = some .local := by rfl) (hd : (v == ("__debug__" : Str)) = false := by decide) :
    wpAny (model prog w) A (eval (.Subscript (.Name v np) (.Slice none (some (.Constant (.int 1) kk ip)) none sp) pos) (envOf n scope L a cd)) Q E ⟨h, g, dr, k, o⟩ :=
  Subscript_ (rLd F hv (wpAny_Slice (wpAny_pure (rInt (kk := kk) (pos := ip) fun t k => wpAny_pure (rTailNs hsz H)))) hk hl hd)
/-- x[-1:] of a local text -/
theorem rLast1 {v : Str} {x : Str} {t : Tok} {np sp pos ip up : Pos} {kk : Nat} (F : Fr h₀ L h m) (hv : m v = some (.str x t)) (hsz : x.length ≤ sizeLine) (H : ∀ h' t' k', Keep h h' → Q (.str (Txt.slice x (some (-1)) none) t') ⟨h', g, dr, k', o⟩)
    (hk : scope.kind = .function := by rfl) (hl : (envOf n scope L a cd).kindOf v = some .local := by rfl) (hd : (v == ("__debug__" : Str)) = false := by decide) :
    wpAny (model prog w) A (eval (.Subscript (.Name v np) (.Slice (some (.UnaryOp .USub (.Constant (.int 1) kk ip) up)) none none sp) pos) (envOf n scope L a cd)) Q E ⟨h, g, dr, k, o⟩ :=
  Subscript_ (rLd F hv (wpAny_Slice (wpAny_UnaryOp (op := .USub) (x := .Constant (.int 1) kk ip) (pos := up) (rInt fun t k => rNeg fun t k => wpAny_pure (wpAny_pure (rTailSn hsz H))))) hk hl hd)
theorem rAnd {x y : Sem Value} {rest : List (Sem Value)} {pos : Pos} {s : Shared}
    (H : wpAny M A x (fun v s₁ => wpAny M A (truthy v) (fun t s₂ => if t then wpAny M A (boolOp pos .And (y :: rest)) Q E s₂ else Q v s₂) E s₁) E s) : wpAny M A (boolOp pos .And (x :: y :: rest)) Q E s := by
  show wpAny M A (do
    let v ← x
    standAt pos
    let t ← holding [v] (truthy v)
    match BoolOp.And, t with
    | .And, false | .Or, true => pure v
    | _, _ => boolOp pos .And (y :: rest)) Q E s
  refine wpAny_bind (wpAny_mono H (fun v s₁ h₁ => wpAny_bind (wpAny_standAt (wpAny_bind (wpAny_holding (wpAny_mono h₁ (fun t s₂ h₂ => ?_) fun _ _ x => x))))) fun _ _ x => x)
  cases t with
  | false => exact wpAny_pure h₂
  | true => exact h₂
end
abbrev hd1 (x : Str) : Str := Txt.slice x none (some 1)
abbrev ls1 (x : Str) : Str := Txt.slice x (some (-1)) none
/-- _law_alike -/
def alikeF (f l : Str × Str) : Bool :=
  if hd1 l.1 == "/" || f.1 == "" then true else (hd1 l.2 != "/") && ((f.2 != "") && ((ls1 f.2 == "/") == (ls1 f.1 == "/")))
theorem alike_ct {w : World} {mg mb : Str → Option Value} {A : Around} {s : Shared} (W : Wd w mg mb s.heap) (hA : Rm A 0) {a b : Addr} {f l : Str × Str} {t1 t2 t3 t4 : Tok}
    (Ta : IsTup s.heap a #[.str f.1 t1, .str f.2 t2]) (Tb : IsTup s.heap b #[.str l.1 t3, .str l.2 t4]) (z1 : f.1.length ≤ sizeLine) (z2 : f.2.length ≤ sizeLine) (z3 : l.1.length ≤ sizeLine) (z4 : l.2.length ≤ sizeLine) :
    Ct w A (.call (.ref 219) ⟨[.ref a, .ref b], []⟩) s (fun v _ => v = .bool (alikeF f l)) := by
  refine enter (i := 26) ["former", "latter"] [.ref a, .ref b] W (by decide) hA.room (fun _ _ => rfl) (by decide +kernel) (by decide +kernel) ?_
  intro cd h₁ L F W1
  refine wpAny_execs_cons ?_
  refine Assign_Tuple ?_ (hs := ?hs) (hw := ?hw)
  case hs => kernel_rfl!
  case hw => kernel_rfl!
  refine Tuple_ (args_cons (rLd F rfl (args_cons (rLd F rfl (args_nil (rNewTuple ?_ (by show 2 ≤ sizeLine; decide)))))))
  have kx : ∀ {h h' : Heap}, Heap.ExtBut h.objs.size h h' → Keep h h' := fun he b o e => he b o (Nat.ne_of_lt (Heap.lt_size e)) e
  refine assign_Tuple_tuple hA.hd (tup_push h₁ _) rfl rfl fun h₂ e2 => ?_
  have K2 : Keep h₁ h₂ := (keep_push _ _).trans (kx e2)
  refine assignInOrder_cons ?_
  refine assign_Tuple_tuple (x1 := 0) hA.hd (Ta.keeps (Keep.trans F.keep K2)) rfl rfl fun h₃ e3 => ?_
  refine assignInOrder_cons (PyProof.Rows.assign_Name (rSt (Frk F (K2.trans (kx e3))) fun h₄ k₄ F4 _ => ?_))
  refine assignInOrder_cons (PyProof.Rows.assign_Name (rSt F4 fun h₅ k₅ F5 _ => assignInOrder_nil ?_))
  refine assignInOrder_cons ?_
  refine assign_Tuple_tuple (x1 := 0) hA.hd (Tb.keeps F5.keep) rfl rfl fun h₆ e6 => ?_
  refine assignInOrder_cons (PyProof.Rows.assign_Name (rSt (Frk F5 (kx e6)) fun h₇ k₇ F7 _ => ?_))
  refine assignInOrder_cons (PyProof.Rows.assign_Name (rSt F7 fun h₈ k₈ F8 _ => assignInOrder_nil (assignInOrder_nil ?_)))
  refine wpAny_execs_cons (wpAny_If (wpAny_isTrue_BoolOp (wpAny_allTrue_Or_cons (wpAny_isTrue_Compare1 ?_))))
  refine rHead1 F8 rfl z3 fun h₉ t k K9 => rStr fun t k => PyProof.Rows.eq_str (wpAny_truthy_bool ?_)
  have F9 := Frk F8 K9
  have c1 : (hd1 l.1 == "/") = true ∨ (hd1 l.1 == "/") = false := by cases (hd1 l.1 == "/") <;> simp
  rcases c1 with c1 | c1
  · rw [show (Txt.slice l.1 none (some 1) == "/") = true from c1]
    refine wpAny_execs_cons (wpAny_Return_some (wpAny_Constant_bool ?_))
    exact ⟨F9.keep, rfl, rfl, by simp [alikeF, c1]⟩
  rw [show (Txt.slice l.1 none (some 1) == "/") = false from c1]
  refine wpAny_allTrue_Or_cons (wpAny_isTrue_Compare1 (rLd F9 rfl (rStr fun t k => PyProof.Rows.eq_str (wpAny_truthy_bool ?_))))
  have c2 : (f.1 == "") = true ∨ (f.1 == "") = false := by cases (f.1 == "") <;> simp
  rcases c2 with c2 | c2
  · rw [c2]
    refine wpAny_execs_cons (wpAny_Return_some (wpAny_Constant_bool ?_))
    exact ⟨F9.keep, rfl, rfl, by simp [alikeF, c2]⟩
  rw [c2]
  refine wpAny_allTrue_Or_nil (wpAny_execs_nil ?_)
  refine wpAny_execs_cons (wpAny_Return_some ?_)
  refine rAnd (wpAny_Compare1 (rHead1 F9 rfl z4 fun h t k K10 => rStr fun t k => PyProof.Rows.ne_str (wpAny_truthy_bool ?_)))
  have F10 := Frk F9 K10
  have c3 : (hd1 l.2 != "/") = false ∨ (hd1 l.2 != "/") = true := by cases (hd1 l.2 != "/") <;> simp
  rcases c3 with c3 | c3
  · rw [show (Txt.slice l.2 none (some 1) != "/") = false from c3]
    exact ⟨F10.keep, rfl, rfl, by simp [alikeF, c1, c2, c3]⟩
  rw [show (Txt.slice l.2 none (some 1) != "/") = true from c3]
  refine rAnd (wpAny_Compare1 (rLd F10 rfl (rStr fun t k => PyProof.Rows.ne_str (wpAny_truthy_bool ?_))))
  have c4 : (f.2 != "") = false ∨ (f.2 != "") = true := by cases (f.2 != "") <;> simp
  rcases c4 with c4 | c4
  · rw [c4]
    exact ⟨F10.keep, rfl, rfl, by simp [alikeF, c1, c2, c3, c4]⟩
  rw [c4]
  refine wpAny_Compare1 (wpAny_Compare1 (rLast1 F10 rfl z2 fun h t k K11 => rStr fun t k => PyProof.Rows.eq_str ?_))
  have F11 := Frk F10 K11
  refine wpAny_Compare1 (rLast1 F11 rfl z1 fun h t k K12 => rStr fun t k => PyProof.Rows.eq_str ?_)
  have F12 := Frk F11 K12
  refine PyProof.Rows.eq_bool ?_
  exact ⟨F12.keep, rfl, rfl, by simp [alikeF, c1, c2, c3, c4]⟩
end
end Mine
namespace Mine
noncomputable section
/-- values that are pairs of texts -/
def Prs (h : Heap) (vs : List Value) (l : List (Str × Str)) : Prop := vs.length = l.length ∧ ∀ (i : Nat) (p : Str × Str), l[i]? = some p → ∃ b t u, vs[i]? = some (.ref b) ∧ IsTup h b #[.str p.1 t, .str p.2 u]
theorem Prs.keeps {h h' : Heap} {vs : List Value} {l : List (Str × Str)} (x : Prs h vs l) (k : Keep h h') : Prs h' vs l :=
  ⟨x.1, fun i p e => let ⟨b, t, u, h1, h2⟩ := x.2 i p e; ⟨b, t, u, h1, h2.keeps k⟩⟩
theorem Prs.take {h : Heap} {vs : List Value} {l : List (Str × Str)} (x : Prs h vs l) (n : Nat) : Prs h (vs.take n) (l.take n) := by
  refine ⟨by rw [List.length_take, List.length_take, x.1], fun i p e => ?_⟩
  rw [List.getElem?_take] at e ⊢
  split at e
  · rename_i hlt; rw [if_pos hlt]; exact x.2 i p e
  · cases e
theorem Prs.drop {h : Heap} {vs : List Value} {l : List (Str × Str)} (x : Prs h vs l) (n : Nat) : Prs h (vs.drop n) (l.drop n) := by
  refine ⟨by rw [List.length_drop, List.length_drop, x.1], fun i p e => ?_⟩
  rw [List.getElem?_drop] at e ⊢
  exact x.2 _ p e
theorem Prs.reverse {h : Heap} {vs : List Value} {l : List (Str × Str)} (x : Prs h vs l) : Prs h vs.reverse l.reverse := by
  refine ⟨by rw [List.length_reverse, List.length_reverse, x.1], fun i p e => ?_⟩
  have hi : i < l.length := by
    have := (List.getElem?_eq_some_iff.mp e).1; rwa [List.length_reverse] at this
  rw [List.getElem?_reverse hi] at e
  rw [List.getElem?_reverse (by rw [x.1]; exact hi), x.1]
  exact x.2 _ p e
theorem lstK {h h' : Heap} {a : Addr} {items : Array Value} (x : h.IsList a items) (k : Keep h h') : h'.IsList a items := let ⟨o, e, r⟩ := x; ⟨o, k _ _ e, r⟩
section
variable {M : Model} {A : Around} {E : Value → Shared → Prop} {env : Env} {h h₀ : Heap} {g : Array GenState} {dr : Drawn} {k : Nat} {o : OsState} {Q : Value → Shared → Prop} {U : Unit → Shared → Prop} {w : World}
  {n : Str} {scope : Scope} {L a : Addr} {cd : Value} {m : Str → Option Value} {mg mb : Str → Option Value} {P : Value → Heap → Prop}
theorem rTailL {value slice : Expr} {l : Addr} {items : Array Value} {vl vu vk : Value} {lo hi st : Option Int} {ops : List Value} (hl : h.IsList l items) (pl : IsPart vl lo) (pu : IsPart vu hi) (pk : IsPart vk st) (h0 : st ≠ some 0) (hsz : items.size ≤ sizeLine)
    (H : ∀ b h', Keep h h' → h.get? b = none → h'.IsList b (slicePick items lo hi st) → Q (.ref b) ⟨h', g, dr, k, o⟩)
    (hs : subscripted slice false (.ref l) (.ref h.objs.size) = operate ops (getItem (.ref l) (.ref h.objs.size)) := by with_unfolding_all rfl) :
    wpAny (model prog w) A (subscriptTail value slice (.ref l) (.ref h.objs.size)) Q E ⟨h.push { cls := .type "slice", data := .fields #[vl, vu, vk] }, g, dr, k, o⟩ := by
  have hl1 : (h.push { cls := .type "slice", data := .fields #[vl, vu, vk] }).IsList l items := hl.push _
  refine tail_any (Heap.IsList.typeIs (s := ⟨h.push { cls := .type "slice", data := .fields #[vl, vu, vk] }, g, dr, k, o⟩) hl1) list_getitem_lookup (wpAny_getItem_list_slice hl1 (Heap.IsSliceOf.new ..) pl pu pk h0 ?_ hsz) hs
  refine H _ _ ((keep_push _ _).trans (keep_push _ _)) ?_ ⟨_, Heap.get?_push_size _ rfl, rfl, _, rfl⟩
  cases e : h.get? (h.push { cls := .type "slice", data := .fields #[vl, vu, vk] }).objs.size with
  | none => rfl
  | some o => have := Heap.lt_size ((keep_push h { cls := .type "slice", data := .fields #[vl, vu, vk] }) _ _ e); exact absurd this (Nat.lt_irrefl _)
end
def gapF (a : Str) : Str := if ([Str.ofString "", Str.ofString "/"] : List Str).any (fun x => x == ls1 a) then "" else "/"
def hungStep (j a : Str × Str) : Str × Str := if hd1 j.1 == "/" then j else (a.1 ++ gapF a.1 ++ j.1, a.2 ++ gapF a.1 ++ j.2)
def hungF (l : List (Str × Str)) : Str × Str := l.dropLast.reverse.foldl hungStep (l.getLast?.getD ("", ""))
theorem hung_stop (l : List (Str × Str)) (j : Str × Str) (h : (hd1 j.1 == "/") = true) : l.foldl hungStep j = j := by
  induction l with
  | nil => rfl
  | cons a r ih => rw [List.foldl_cons, show hungStep j a = j by simp [hungStep, h]]; exact ih
def sum1 (l : List (Str × Str)) : Nat := (l.map fun p => p.1.length + 1).sum
def sum2 (l : List (Str × Str)) : Nat := (l.map fun p => p.2.length + 1).sum
theorem gap_le (a : Str) : (gapF a).length ≤ 1 := by unfold gapF; split <;> decide
theorem hungStep_le (j a : Str × Str) : (hungStep j a).1.length ≤ j.1.length + (a.1.length + 1) ∧ (hungStep j a).2.length ≤ j.2.length + (a.2.length + 1) := by
  have := gap_le a.1
  unfold hungStep
  split
  · exact ⟨Nat.le_add_right _ _, Nat.le_add_right _ _⟩
  · simp only [Str.length_append]; omega
theorem hungFold_le (l : List (Str × Str)) : ∀ j : Str × Str, (l.foldl hungStep j).1.length ≤ j.1.length + sum1 l ∧ (l.foldl hungStep j).2.length ≤ j.2.length + sum2 l := by
  induction l with
  | nil => intro j; exact ⟨Nat.le_add_right _ _, Nat.le_add_right _ _⟩
  | cons a r ih =>
    intro j
    have h1 := ih (hungStep j a)
    have h2 := hungStep_le j a
    simp only [List.foldl_cons, sum1, sum2, List.map_cons, List.sum_cons] at *
    omega
theorem sumF_reverse (f : Str × Str → Nat) (l : List (Str × Str)) : (l.reverse.map f).sum = (l.map f).sum := by
  induction l with
  | nil => rfl
  | cons a r ih => simp only [List.reverse_cons, List.map_append, List.map_cons, List.map_nil, List.sum_append, List.sum_cons, List.sum_nil, ih]; omega
theorem sumF_take (f : Str × Str → Nat) (l : List (Str × Str)) : ∀ i, ((l.take i).map f).sum ≤ (l.map f).sum := by
  induction l with
  | nil => intro i; simp
  | cons a r ih =>
    intro i
    cases i with
    | zero => simp
    | succ i => have := ih i; simp only [List.take_succ_cons, List.map_cons, List.sum_cons]; omega
theorem sumF_split (f : Str × Str → Nat) (l : List (Str × Str)) {p : Str × Str} (hp : l[l.length - 1]? = some p) (h0 : 0 < l.length) : ((l.take (l.length - 1)).map f).sum + f p = (l.map f).sum := by
  have e : l = l.take (l.length - 1) ++ [p] := by
    have h1 := List.take_succ (l := l) (i := l.length - 1)
    rw [hp, show l.length - 1 + 1 = l.length by omega, List.take_length] at h1
    exact h1
  have h2 := congrArg (fun l => (l.map f).sum) e
  simp only [List.map_append, List.sum_append, List.map_cons, List.map_nil, List.sum_cons, List.sum_nil] at h2
  omega
theorem hung_eq {l : List (Str × Str)} {p : Str × Str} (hp : l[l.length - 1]? = some p) : hungF l = (l.take (l.length - 1)).reverse.foldl hungStep p := by
  unfold hungF
  rw [List.dropLast_eq_take, List.getLast?_eq_getElem?, hp]; rfl
theorem rUnpack2 {w : World} {A : Around} {E : Value → Shared → Prop} {h : Heap} {g : Array GenState} {dr : Drawn} {k : Nat} {o : OsState} {Q : List Value → Shared → Prop} {t : Addr} {v1 v2 : Value} (hh : A.handled = none) (ht : IsTup h t #[v1, v2])
    (H : ∀ h', Keep h h' → Q [v1, v2] ⟨h', g, dr, k, o⟩) : wpAny (model prog w) A (unpackItems (.ref t) 2 none) Q E ⟨h, g, dr, k, o⟩ := by
  have key : ∀ n : Nat, n = (#[v1, v2] : Array Value).size → wpAny (model prog w) A (unpackItems (.ref t) n none) Q E ⟨h, g, dr, k, o⟩ := by
    intro n hn
    subst hn
    exact unpackItems_tuple hh ht fun h' he => H h' fun b o e => he b o (Nat.ne_of_lt (Heap.lt_size e)) e
  exact key 2 rfl
theorem rLetGoL {w : World} {A : Around} {E : Value → Shared → Prop} {h : Heap} {g : Array GenState} {dr : Drawn} {k : Nat} {o : OsState} {U : Unit → Shared → Prop} {es : List Expr} {kk : Nat} {pos : Pos} {I ax b : Addr} {i : Nat} (hi : h.IsListIter I ax i) (H : U () ⟨h, g, dr, k, o⟩) :
    wpAny (model prog w) A (letOwnedTupleGo (.Tuple es kk pos) (.ref I) (.ref b)) U E ⟨h, g, dr, k, o⟩ := by
  obtain ⟨ob, h1, h2, h3⟩ := hi
  obtain ⟨c, d, dt, sl⟩ := ob
  simp only at h2 h3
  subst h2 h3
  unfold letOwnedTupleGo
  refine wpAny_bind (wpAny_load h1 ?_)
  exact wpAny_pure H
theorem hung_ct {w : World} {mg mb : Str → Option Value} {A : Around} {s : Shared} (W : Wd w mg mb s.heap) (hA : Rm A 0) {a : Addr} {vs : List Value} {l : List (Str × Str)} (ha : s.heap.IsList a vs.toArray) (hp : Prs s.heap vs l) (hne : l ≠ [])
    (hn : l.length ≤ 1000) (z1 : sum1 l ≤ 1000000) (z2 : sum2 l ≤ 1000000) :
    Ct w A (.call (.ref 212) ⟨[.ref a], []⟩) s (fun v _ => ∃ t, v = .str (hungF l).2 t) := by
  refine enter (i := 25) ["row"] [.ref a] W (by decide) hA.room (fun _ _ => rfl) (by decide +kernel) (by decide +kernel) ?_
  intro cd h₁ L F W1
  have kx : ∀ {h h' : Heap}, Heap.ExtBut h.objs.size h h' → Keep h h' := fun he b o e => he b o (Nat.ne_of_lt (Heap.lt_size e)) e
  have R1 : (A.deeper (envOf (nm (stm 25)) (sc (stm 25)) L 212 cd)).handled = none := hA.hd
  have hlen : 0 < l.length := List.length_pos_iff.mpr hne
  have hv : vs.length = l.length := hp.1
  obtain ⟨pl, hpl⟩ : ∃ p, l[l.length - 1]? = some p := ⟨_, List.getElem?_eq_getElem (by omega)⟩
  obtain ⟨bl, tl, ul, hbl, hTl⟩ := hp.2 _ pl hpl
  refine wpAny_execs_cons ?_
  refine Assign_Tuple ?_ (hs := ?hs) (hw := ?hw)
  case hs => kernel_rfl!
  case hw => kernel_rfl!
  refine Subscript_ (rLd F rfl (wpAny_UnaryOp (rInt fun _ _ => rNeg fun t k => ?_)))
  refine tail_any (Heap.IsList.typeIs (s := ⟨h₁, _, _, _, _⟩) (lstK ha F.keep)) list_getitem_lookup (wpAny_getItem_list_neg (lstK ha F.keep) (x := .ref bl) (by decide) ?_ (by decide) ?_ ?_) (by with_unfolding_all rfl)
  · rw [List.size_toArray]; omega
  · rw [List.size_toArray, List.getElem?_toArray, show ((-1 : Int) + (vs.length : Int)).toNat = l.length - 1 by omega]; exact hbl
  refine assign_Tuple_tuple (x1 := 0) R1 (hTl.keeps F.keep) rfl rfl fun h₂ e2 => ?_
  refine assignInOrder_cons (PyProof.Rows.assign_Name (rSt (Frk F (kx e2)) fun h₃ k₃ F3 _ => ?_))
  refine assignInOrder_cons (PyProof.Rows.assign_Name (rSt F3 fun h₄ k₄ F4 _ => assignInOrder_nil ?_))
  refine wpAny_execs_cons ?_
  refine for_walk (fun i s' => ∃ h dr k m u1 u2, s' = ⟨h, s.gens, dr, k, s.os⟩ ∧ Fr s.heap L h m ∧ m "judged" = some (.str (((l.take (l.length - 1)).reverse.take i).foldl hungStep pl).1 u1) ∧ m "told" = some (.str (((l.take (l.length - 1)).reverse.take i).foldl hungStep pl).2 u2)) ?_
  refine Subscript_ (Subscript_ (rLd F4 rfl ?_))
  refine wpAny_Slice (wpAny_pure (wpAny_UnaryOp (rInt fun _ _ => rNeg fun tn kn => wpAny_pure ?_)))
  refine rTailL (lstK ha F4.keep) .none (.int _ _) .none (by decide) (by rw [List.size_toArray]; have : sizeLine = 16777216 := rfl; omega) fun b₁ h₅ K5 n5 L5 => ?_
  refine wpAny_Slice (wpAny_pure (wpAny_pure (wpAny_UnaryOp (rInt fun _ _ => rNeg fun tn kn => ?_))))
  have e5 : slicePick vs.toArray none (some (-1)) none = (vs.take (l.length - 1)).toArray := by
    have := slicePick_butLast vs.toArray 1 (Nat.le_refl _)
    simpa [hv] using this
  rw [show (-(1 : Int)) = -1 from rfl, e5] at L5
  refine rTailL L5 .none .none (.int _ _) (by decide) (by rw [List.size_toArray, List.length_take]; have : sizeLine = 16777216 := rfl; omega) fun b₂ h₆ K6 n6 L6 => ?_
  rw [show (-(1 : Int)) = -1 from rfl, krv_pick] at L6
  have F6 : Fr s.heap L h₆ _ := Frk F4 (K5.trans K6)
  have hp6 : Prs s.heap (vs.take (l.length - 1)).reverse (l.take (l.length - 1)).reverse := (hp.take _).reverse
  have hb2 : b₂ ≠ h₆.objs.size := by obtain ⟨ot, hot, _⟩ := L6; exact Nat.ne_of_lt (Heap.lt_size hot)
  have hb2L : b₂ ≠ L := by
    rintro rfl
    obtain ⟨oL, _, _, hL, _⟩ := F4.ns
    have := K5 _ _ hL
    rw [n6] at this
    cases this
  have hLI : L ≠ h₆.objs.size := Nat.ne_of_lt (frLt F6)
  refine wpAny_pyIter_list L6 ?_
  have Wk := Walks.list (prog := prog) (w := w) R1 h₆.objs.size b₂ hb2 (vs.take (l.length - 1)).reverse.toArray
  refine ⟨h₆.objs.size, _, _, _, _, _, rfl, Wk, ⟨⟨_, Heap.get?_push_size _ rfl, rfl, rfl⟩, L6.push _⟩, ?_, ?_, ?_⟩
  · exact ⟨_, _, _, _, tl, ul, rfl, Frk F6 (keep_push _ _), rfl, rfl⟩
  · rintro i s₃ v h' tk hi hst ⟨h, dr, k, m, u1, u2, rfl, Fh, hj, ht⟩ hP hst' hk
    have F' : Fr s.heap L h' m := Frb Fh hk (frNew F6) hLI
    obtain ⟨p, hpi⟩ : ∃ p, (l.take (l.length - 1)).reverse[i]? = some p := ⟨_, List.getElem?_eq_getElem (by have := hi; rw [List.size_toArray, hp6.1] at this; exact this)⟩
    obtain ⟨b, t1, t2, hvb, hTb⟩ := hp6.2 i p hpi
    obtain rfl : v = .ref b := by rw [List.getElem?_toArray, hvb] at hP; exact (Option.some.inj hP).symm
    refine rLetGoL hst'.1 ?_
    refine assign_Tuple_tuple (x1 := 0) R1 (hTb.keeps F'.keep) rfl rfl fun a₁ e1 => ?_
    refine assignInOrder_cons (PyProof.Rows.assign_Name (rSt (Frk F' (kx e1)) fun a₂ q₂ G2 B2 => ?_))
    refine assignInOrder_cons (PyProof.Rows.assign_Name (rSt G2 fun a₃ q₃ G3 B3 => assignInOrder_nil ?_))
    have K3 : Kb L h' a₃ := (((Kb.refl L h').keep (kx e1)).same B2).same B3
    have z : sizeLine = 16777216 := rfl
    have hstp : ((l.take (l.length - 1)).reverse.take (i + 1)).foldl hungStep pl = hungStep (((l.take (l.length - 1)).reverse.take i).foldl hungStep pl) p := by
      rw [List.take_succ, hpi]; simp
    have hlen2 : (((l.take (l.length - 1)).reverse.take i).foldl hungStep pl).1.length + (p.1.length + 1) ≤ 1000000 ∧ (((l.take (l.length - 1)).reverse.take i).foldl hungStep pl).2.length + (p.2.length + 1) ≤ 1000000 := by
      have q := hungFold_le ((l.take (l.length - 1)).reverse.take i) pl
      have r1 := sumF_take (fun p => p.1.length + 1) (l.take (l.length - 1)).reverse (i + 1)
      have r2 := sumF_take (fun p => p.2.length + 1) (l.take (l.length - 1)).reverse (i + 1)
      rw [List.take_succ, hpi, sumF_reverse] at r1 r2
      have w1 := sumF_split (fun p => p.1.length + 1) l hpl hlen
      have w2 := sumF_split (fun p => p.2.length + 1) l hpl hlen
      simp only [sum1, sum2, Option.toList_some, List.map_append, List.map_cons, List.map_nil, List.sum_append, List.sum_cons, List.sum_nil] at q r1 r2 z1 z2 w1 w2
      omega
    generalize hJ : ((l.take (l.length - 1)).reverse.take i).foldl hungStep pl = j at hj ht hstp hlen2
    refine wpAny_execs_cons (wpAny_If (wpAny_isTrue_Compare1 (rHead1 G3 hj (by omega) fun a₄ t q₄ K4 => rStr fun t k => PyProof.Rows.eq_str (wpAny_truthy_bool ?_))))
    have G4 := Frk G3 K4
    have c1 : (hd1 j.1 == "/") = true ∨ (hd1 j.1 == "/") = false := by cases (hd1 j.1 == "/") <;> simp
    rcases c1 with c1 | c1
    · rw [show (Txt.slice j.1 none (some 1) == "/") = true from c1]
      refine wpAny_execs_cons (wpAny_Break ?_)
      refine wpAny_execs_cons (wpAny_Return_some (rLd G4 ht ?_))
      refine ⟨G4.keep, rfl, rfl, u2, ?_⟩
      have e : hungF l = j := by
        rw [hung_eq hpl, ← List.take_append_drop i (l.take (l.length - 1)).reverse, List.foldl_append, hJ]
        exact hung_stop _ _ c1
      rw [e]
    rw [show (Txt.slice j.1 none (some 1) == "/") = false from c1]
    refine wpAny_execs_nil ?_
    refine wpAny_execs_cons (wpAny_Assign_Name (wpAny_IfExp (wpAny_isTrue_Compare1 (rLast1 G4 rfl (by omega) fun a₅ t₅ q₅ K5 => ?_))))
    have G5 := Frk G4 K5
    refine Tuple_ (args_cons (rStr fun s1 _ => args_cons (rStr fun s2 _ => args_nil (rNewTuple ?_ (by show 2 ≤ sizeLine; decide)))))
    refine in_tuple_strs (ys := ["", "/"]) (tup_push _ _) (.cons _ _ (.cons _ _ .nil)) (wpAny_truthy_bool ?_)
    have G6 := Frk G5 (keep_push a₅ { cls := .type "tuple", data := .seq [Value.str "" s1, Value.str "/" s2].toArray })
    have K6 : Kb L h' (a₅.push { cls := .type "tuple", data := .seq [Value.str "" s1, Value.str "/" s2].toArray }) := ((K3.keep K4).keep K5).keep (keep_push _ _)
    have hg := gap_le p.1
    have c2 : (([Str.ofString "", Str.ofString "/"] : List Str).any (fun x => x == ls1 p.1)) = true ∨ (([Str.ofString "", Str.ofString "/"] : List Str).any (fun x => x == ls1 p.1)) = false := by cases (([Str.ofString "", Str.ofString "/"] : List Str).any (fun x => x == ls1 p.1)) <;> simp
    have key : ∀ (gp : Str), gapF p.1 = gp → ∀ (h₉ : Heap) (d₉ : Drawn) (k₉ : Nat) (u₈ u₉ : Tok) (m₉ : Str → Option Value), Fr s.heap L h₉ m₉ → Kb L h' h₉ → m₉ "judged" = some (.str (p.1 ++ gp ++ j.1) u₈) → m₉ "told" = some (.str (p.2 ++ gp ++ j.2) u₉) →
        (h₉.IsListIter h₆.objs.size b₂ (i + 1) ∧ h₉.IsList b₂ (vs.take (l.length - 1)).reverse.toArray) ∧ ∃ h dr k m u1 u2, (⟨h₉, s.gens, d₉, k₉, s.os⟩ : Shared) = ⟨h, s.gens, dr, k, s.os⟩ ∧ Fr s.heap L h m ∧ m "judged" = some (.str (((l.take (l.length - 1)).reverse.take (i + 1)).foldl hungStep pl).1 u1) ∧ m "told" = some (.str (((l.take (l.length - 1)).reverse.take (i + 1)).foldl hungStep pl).2 u2) := by
      intro gp eg h₉ d₉ k₉ u₈ u₉ m₉ F9 B9 e1 e2
      refine ⟨Wk.frame (i + 1) h' h₉ hst' fun b hb ob e => B9 b ob ?_ e, h₉, d₉, k₉, m₉, u₈, u₉, rfl, F9, ?_, ?_⟩
      · simp only [List.mem_cons, List.not_mem_nil, or_false] at hb
        rcases hb with rfl | rfl
        · exact hLI.symm
        · exact hb2L
      · rw [hstp, e1]; simp [hungStep, c1, eg]
      · rw [hstp, e2]; simp [hungStep, c1, eg]
    have gz : gapF p.1 = "" ∨ gapF p.1 = "/" := by unfold gapF; split <;> simp
    rcases c2 with c2 | c2
    · rw [show (([Str.ofString "", Str.ofString "/"] : List Str).any fun x => x == Txt.slice p.1 (some (-1)) none) = true from c2]
      refine rStr fun tg kg => rSt G6 fun a₇ q₇ G7 B7 => ?_
      refine wpAny_execs_cons ?_
      refine Assign_Tuple_swapped (names := ["judged", "told"]) ?_ (hs := ?hs) (hw := ?hw)
      case hs => kernel_rfl!
      case hw => kernel_rfl!
      refine Tuple_ (args_cons (wpAny_BinOp (wpAny_BinOp (rLd G7 rfl (rLd G7 rfl (rAddS (by show _ + 0 ≤ _; omega) fun _ _ => rLd G7 hj (rAddS (by rw [Str.length_append]; show _ + 0 + _ ≤ _; omega) fun _ _ => ?_)))))))
      refine args_cons (wpAny_BinOp (wpAny_BinOp (rLd G7 rfl (rLd G7 rfl (rAddS (by show _ + 0 ≤ _; omega) fun _ _ => rLd G7 ht (rAddS (by rw [Str.length_append]; show _ + 0 + _ ≤ _; omega) fun _ _ => args_nil (rNewTuple ?_ (by show 2 ≤ sizeLine; decide))))))))
      refine rUnpack2 R1 (tup_push a₇ _) ?_
      intro a₈ K8
      refine assignInOrder_cons (bindName_ (rSt (Frk G7 ((keep_push _ _).trans K8)) fun a₉ q₉ G9 B9 => ?_))
      refine assignInOrder_cons (bindName_ (rSt G9 fun a₁₀ q₁₀ G10 B10 => assignInOrder_nil (wpAny_execs_nil ?_)))
      exact key "" (by unfold gapF; rw [if_pos c2]) _ _ _ _ _ _ G10 (((K6.same B7).keep ((keep_push _ _).trans K8)).same B9 |>.same B10) rfl rfl
    · rw [show (([Str.ofString "", Str.ofString "/"] : List Str).any fun x => x == Txt.slice p.1 (some (-1)) none) = false from c2]
      refine rStr fun tg kg => rSt G6 fun a₇ q₇ G7 B7 => ?_
      refine wpAny_execs_cons ?_
      refine Assign_Tuple_swapped (names := ["judged", "told"]) ?_ (hs := ?hs) (hw := ?hw)
      case hs => kernel_rfl!
      case hw => kernel_rfl!
      refine Tuple_ (args_cons (wpAny_BinOp (wpAny_BinOp (rLd G7 rfl (rLd G7 rfl (rAddS (by show _ + 1 ≤ _; omega) fun _ _ => rLd G7 hj (rAddS (by rw [Str.length_append]; show _ + 1 + _ ≤ _; omega) fun _ _ => ?_)))))))
      refine args_cons (wpAny_BinOp (wpAny_BinOp (rLd G7 rfl (rLd G7 rfl (rAddS (by show _ + 1 ≤ _; omega) fun _ _ => rLd G7 ht (rAddS (by rw [Str.length_append]; show _ + 1 + _ ≤ _; omega) fun _ _ => args_nil (rNewTuple ?_ (by show 2 ≤ sizeLine; decide))))))))
      refine rUnpack2 R1 (tup_push a₇ _) ?_
      intro a₈ K8
      refine assignInOrder_cons (bindName_ (rSt (Frk G7 ((keep_push _ _).trans K8)) fun a₉ q₉ G9 B9 => ?_))
      refine assignInOrder_cons (bindName_ (rSt G9 fun a₁₀ q₁₀ G10 B10 => assignInOrder_nil (wpAny_execs_nil ?_)))
      exact key "/" (by unfold gapF; rw [c2]; rfl) _ _ _ _ _ _ G10 (((K6.same B7).keep ((keep_push _ _).trans K8)).same B9 |>.same B10) rfl rfl
  · rintro s₃ h' tk hst ⟨h, dr, k, m, u1, u2, rfl, Fh, hj, ht⟩ hk
    have F' : Fr s.heap L h' m := Frb Fh hk (frNew F6) hLI
    refine wpAny_execs_cons (wpAny_Return_some (rLd F' ht ?_))
    refine ⟨F'.keep, rfl, rfl, u2, ?_⟩
    rw [hung_eq hpl]
    show Value.str (List.foldl hungStep pl ((l.take (l.length - 1)).reverse.take _)).2 u2 = _
    rw [List.take_of_length_le (by rw [List.size_toArray, hp6.1]; exact Nat.le_refl _)]
end
end Mine
namespace Mine
noncomputable section
def partLoop : List Stmt := match bd (stm 23) with
  | [_, .For _ _ b _ _, _] => b
  | _ => []
def partTail : List Stmt := partLoop.drop 4
def partRest : List Stmt := partLoop.drop 3
def a5 : List Nat := [97, 65, 119808, 120068, 119964]
def b4 : List Nat := [98, 66, 119809, 8492]
/-- the sign that a figure stands for, as it is spelled and as it is meant -/
def signOf (d : Nat) (turn : Int) : Str × Str :=
  if d = 0 ∨ d = 4 then ("/", "/")
  else if d = 1 ∨ d = 5 then (⟨#[goneC turn]⟩, "")
  else if d = 2 then (⟨#[a5.getD (turn % 5).toNat 0]⟩, "a")
  else if d = 3 then (⟨#[(specP turn).1.toNat]⟩, (specP turn).2)
  else if d = 6 then (".", ".")
  else if d = 7 then (⟨#[b4.getD (turn % 4).toNat 0]⟩, "b")
  else if d = 8 then (⟨#[(19968 + turn % 20000).toNat]⟩, ⟨#[(19968 + turn % 20000).toNat]⟩)
  else ("", "")
def partStep (number : Int) (p : Str × Str) (d : Nat) : Str × Str :=
  (p.1 ++ (signOf d (number + p.1.length)).1, p.2 ++ (signOf d (number + p.1.length)).2)
def partF (number : Int) (ds : List Nat) : Str × Str := ds.foldl (partStep number) ("", "")
section
variable {A : Around} {h h₀ : Heap} {g : Array GenState} {dr : Drawn} {k : Nat} {o : OsState} {w : World} {L : Addr} {cd : Value} {m : Str → Option Value} {Q : Flow → Shared → Prop}
theorem part_tail {W P sg mt : Str} {t1 t2 t3 t4 : Tok} (hA : A.handled = none) (F : Fr h₀ L h m) (h1 : m "written" = some (.str W t1)) (h2 : m "plain" = some (.str P t2)) (h3 : m "sign" = some (.str sg t3)) (h4 : m "meant" = some (.str mt t4))
    (z1 : W.length + sg.length ≤ sizeLine) (z2 : P.length + mt.length ≤ sizeLine)
    (H : ∀ h' k' m' u1 u2, Fr h₀ L h' m' → Kb L h h' → m' "written" = some (.str (W ++ sg) u1) → m' "plain" = some (.str (P ++ mt) u2) → m' "number" = m "number" → Q .next ⟨h', g, dr, k', o⟩) :
    wpAny (model prog w) A (execs partTail (envOf (nm (stm 23)) (sc (stm 23)) L 200 cd)) Q No ⟨h, g, dr, k, o⟩ := by
  refine wpAny_execs_cons ?_
  refine Assign_Tuple_swapped (names := ["written", "plain"]) ?_ (hs := ?hs) (hw := ?hw)
  case hs => kernel_rfl!
  case hw => kernel_rfl!
  refine Tuple_ (args_cons (wpAny_BinOp (rLd F h1 (rLd F h3 (rAddS z1 fun u1 _ => ?_)))))
  refine args_cons (wpAny_BinOp (rLd F h2 (rLd F h4 (rAddS z2 fun u2 _ => args_nil (rNewTuple ?_ (by show 2 ≤ sizeLine; decide))))))
  refine rUnpack2 hA (tup_push h _) ?_
  intro a₁ K1
  refine assignInOrder_cons (bindName_ (rSt (Frk F ((keep_push _ _).trans K1)) fun a₂ q₂ G2 B2 => ?_))
  refine assignInOrder_cons (bindName_ (rSt G2 fun a₃ q₃ G3 B3 => assignInOrder_nil (wpAny_execs_nil ?_)))
  exact H a₃ _ _ u1 u2 G3 ((((Kb.refl L h).keep ((keep_push _ _).trans K1)).same B2).same B3) rfl rfl rfl
end
end
end Mine
namespace Mine
noncomputable section
theorem ite_f {c : Bool} {a b : Prop} (hc : c = false) (h : b) : if c = true then a else b := by rw [hc]; exact h
theorem ite_t {c : Bool} {a b : Prop} (hc : c = true) (h : a) : if c = true then a else b := by rw [hc]; exact h
def l10 : List Str := ["/", "", "a", "", "/", "", ".", "b", "", ""]
section
variable {A : Around} {h h₀ : Heap} {g : Array GenState} {dr : Drawn} {k : Nat} {o : OsState} {w : World} {L : Addr} {cd : Value} {m : Str → Option Value} {Q : Flow → Shared → Prop} {mg mb : Str → Option Value}
theorem part_rest0 {d : Nat} (hd : d = 0 ∨ d = 4 ∨ d = 6 ∨ d = 9) {W P : Str} {turn : Int} {t1 t2 t3 t4 tf tt : Tok} (hA : Rm A 0) (F : Fr h₀ L h m) (h1 : m "written" = some (.str W t1)) (h2 : m "plain" = some (.str P t2))
    (h3 : m "sign" = some (.str (l10.getD d "") t3)) (h4 : m "meant" = some (.str (l10.getD d "") t4)) (hf : m "figure" = some (.str ⟨#[48 + d]⟩ tf)) (z1 : W.length ≤ 1000) (z2 : P.length ≤ 1000)
    (H : ∀ h' dr' k' m' u1 u2, Fr h₀ L h' m' → Kb L h h' → m' "written" = some (.str (W ++ (signOf d turn).1) u1) → m' "plain" = some (.str (P ++ (signOf d turn).2) u2) → m' "number" = m "number" → Q .next ⟨h', g, dr', k', o⟩) :
    wpAny (model prog w) A (execs partRest (envOf (nm (stm 23)) (sc (stm 23)) L 200 cd)) Q No ⟨h, g, dr, k, o⟩ := by
  have z : sizeLine = 16777216 := rfl
  rcases hd with rfl | rfl | rfl | rfl
  all_goals
    refine wpAny_execs_cons (wpAny_If (wpAny_isTrue_Compare1 (rLd F hf (rStr fun _ _ => in_str (wpAny_truthy_bool ?_)))))
    refine ite_f (by decide +kernel) ?_
    refine wpAny_execs_cons (wpAny_If (wpAny_isTrue_Compare1 (rLd F hf (rStr fun _ _ => PyProof.Rows.eq_str (wpAny_truthy_bool ?_)))))
    refine ite_f (by decide +kernel) ?_
    refine wpAny_execs_cons (wpAny_If (wpAny_isTrue_Compare1 (rLd F hf (rStr fun _ _ => PyProof.Rows.eq_str (wpAny_truthy_bool ?_)))))
    refine ite_f (by decide +kernel) ?_
    refine wpAny_execs_cons (wpAny_If (wpAny_isTrue_Compare1 (rLd F hf (rStr fun _ _ => PyProof.Rows.eq_str (wpAny_truthy_bool ?_)))))
    refine ite_f (by decide +kernel) ?_
    refine wpAny_execs_cons (wpAny_If (wpAny_isTrue_Compare1 (rLd F hf (rStr fun _ _ => PyProof.Rows.eq_str (wpAny_truthy_bool ?_)))))
    refine ite_f (by decide +kernel) (wpAny_execs_nil (wpAny_execs_nil (wpAny_execs_nil (wpAny_execs_nil (wpAny_execs_nil ?_)))))
    refine part_tail hA.hd F h1 h2 h3 h4 (Nat.le_trans (Nat.add_le_add_left (show (_ : Nat) ≤ 1 by decide) _) (by omega)) (Nat.le_trans (Nat.add_le_add_left (show (_ : Nat) ≤ 1 by decide) _) (by omega)) fun h' k' m' u1 u2 F' K e1 e2 e3 => H h' _ k' m' u1 u2 F' K e1 e2 e3
end
end
end Mine
namespace Mine
noncomputable section
section
variable {A : Around} {h h₀ : Heap} {g : Array GenState} {dr : Drawn} {k : Nat} {o : OsState} {w : World} {L : Addr} {cd : Value} {m : Str → Option Value} {Q : Flow → Shared → Prop} {mg mb : Str → Option Value}
theorem part_rest1 {d : Nat} (hd : d = 1 ∨ d = 5) {W P : Str} {turn : Int} {t1 t2 t3 t4 tf tt : Tok} (hA : Rm A 1) (W0 : Wd w mg mb h₀) (F : Fr h₀ L h m) (h1 : m "written" = some (.str W t1)) (h2 : m "plain" = some (.str P t2))
    (h3 : m "sign" = some (.str (l10.getD d "") t3)) (h4 : m "meant" = some (.str (l10.getD d "") t4)) (hf : m "figure" = some (.str ⟨#[48 + d]⟩ tf)) (ht : m "turn" = some (.int turn tt)) (z1 : W.length ≤ 1000) (z2 : P.length ≤ 1000)
    (H : ∀ h' dr' k' m' u1 u2, Fr h₀ L h' m' → Kb L h h' → m' "written" = some (.str (W ++ (signOf d turn).1) u1) → m' "plain" = some (.str (P ++ (signOf d turn).2) u2) → m' "number" = m "number" → Q .next ⟨h', g, dr', k', o⟩) :
    wpAny (model prog w) A (execs partRest (envOf (nm (stm 23)) (sc (stm 23)) L 200 cd)) Q No ⟨h, g, dr, k, o⟩ := by
  have z : sizeLine = 16777216 := rfl
  have W1 := W0.keeps F.keep
  rcases hd with rfl | rfl
  all_goals
    refine wpAny_execs_cons (wpAny_If (wpAny_isTrue_Compare1 (rLd F hf (rStr fun _ _ => in_str (wpAny_truthy_bool ?_)))))
    refine ite_t (by decide +kernel) ?_
    refine wpAny_execs_cons (wpAny_Assign_Name (rDef1 (b := 186) (i := 21) W1 (by decide) (by decide) (rLd F ht ⟨Keep.refl _, rCt (law_gone_ct W1 (hA.le (by omega)) turn tt) ?_⟩)))
    rintro v h₂ d₂ k₂ K2 ⟨ts, rfl⟩
    refine rSt (Frk F K2) fun h₃ k₃ F3 B3 => wpAny_execs_nil ?_
    refine part_tail hA.hd F3 h1 h2 (sg := ⟨#[goneC turn]⟩) rfl h4 (by show _ + 1 ≤ _; omega) (by show _ + 0 ≤ _; omega) fun h' k' m' u1 u2 F' K e1 e2 e3 => H h' _ k' m' u1 u2 F' ((((Kb.refl L h).keep K2).same B3).trans K) e1 e2 e3
theorem part_rest3 {W P : Str} {turn : Int} {t1 t2 t3 t4 tf tt : Tok} (hA : Rm A 1) (W0 : Wd w mg mb h₀) (F : Fr h₀ L h m) (h1 : m "written" = some (.str W t1)) (h2 : m "plain" = some (.str P t2))
    (hf : m "figure" = some (.str ⟨#[48 + 3]⟩ tf)) (ht : m "turn" = some (.int turn tt)) (z1 : W.length ≤ 1000) (z2 : P.length ≤ 1000) (z3 : (specP turn).2.length ≤ 1000)
    (H : ∀ h' dr' k' m' u1 u2, Fr h₀ L h' m' → Kb L h h' → m' "written" = some (.str (W ++ (signOf 3 turn).1) u1) → m' "plain" = some (.str (P ++ (signOf 3 turn).2) u2) → m' "number" = m "number" → Q .next ⟨h', g, dr', k', o⟩) :
    wpAny (model prog w) A (execs partRest (envOf (nm (stm 23)) (sc (stm 23)) L 200 cd)) Q No ⟨h, g, dr, k, o⟩ := by
  have z : sizeLine = 16777216 := rfl
  have W1 := W0.keeps F.keep
  refine wpAny_execs_cons (wpAny_If (wpAny_isTrue_Compare1 (rLd F hf (rStr fun _ _ => in_str (wpAny_truthy_bool ?_)))))
  refine ite_f (by decide +kernel) ?_
  refine wpAny_execs_cons (wpAny_If (wpAny_isTrue_Compare1 (rLd F hf (rStr fun _ _ => PyProof.Rows.eq_str (wpAny_truthy_bool ?_)))))
  refine ite_f (by decide +kernel) ?_
  refine wpAny_execs_cons (wpAny_If (wpAny_isTrue_Compare1 (rLd F hf (rStr fun _ _ => PyProof.Rows.eq_str (wpAny_truthy_bool ?_)))))
  refine ite_t (by decide +kernel) ?_
  refine wpAny_execs_cons ?_
  refine Assign_Tuple ?_ (hs := ?hs) (hw := ?hw)
  case hs => kernel_rfl!
  case hw => kernel_rfl!
  refine rDef1 (b := 193) (i := 22) W1 (by decide) (by decide) (rLd F ht ⟨Keep.refl _, rCt (law_special_ct W1 (hA.le (by omega)) turn tt) ?_⟩)
  rintro v h₂ d₂ k₂ K2 ⟨a, ta, tb, rfl, hT⟩
  refine assign_Tuple_tuple (x1 := 0) hA.hd hT rfl rfl fun h₃ e3 => ?_
  have K3 : Keep h₂ h₃ := fun b o e => e3 b o (Nat.ne_of_lt (Heap.lt_size e)) e
  refine assignInOrder_cons (PyProof.Rows.assign_Name (rSt (Frk F (K2.trans K3)) fun h₄ k₄ F4 B4 => ?_))
  refine assignInOrder_cons (PyProof.Rows.assign_Name (rSt F4 fun h₅ k₅ F5 B5 => assignInOrder_nil (wpAny_execs_nil (wpAny_execs_nil (wpAny_execs_nil ?_)))))
  refine part_tail hA.hd F5 h1 h2 (sg := ⟨#[(specP turn).1.toNat]⟩) (mt := (specP turn).2) rfl rfl (by show _ + 1 ≤ _; omega) (by omega) fun h' k' m' u1 u2 F' K e1 e2 e3 => H h' _ k' m' u1 u2 F' (((((Kb.refl L h).keep (K2.trans K3)).same B4).same B5).trans K) e1 e2 e3
theorem part_rest8 {W P : Str} {turn : Int} {t1 t2 t3 t4 tf tt : Tok} (hA : Rm A 1) (W0 : Wd w mg mb h₀) (F : Fr h₀ L h m) (h1 : m "written" = some (.str W t1)) (h2 : m "plain" = some (.str P t2))
    (hf : m "figure" = some (.str ⟨#[48 + 8]⟩ tf)) (ht : m "turn" = some (.int turn tt)) (z1 : W.length ≤ 1000) (z2 : P.length ≤ 1000)
    (H : ∀ h' dr' k' m' u1 u2, Fr h₀ L h' m' → Kb L h h' → m' "written" = some (.str (W ++ (signOf 8 turn).1) u1) → m' "plain" = some (.str (P ++ (signOf 8 turn).2) u2) → m' "number" = m "number" → Q .next ⟨h', g, dr', k', o⟩) :
    wpAny (model prog w) A (execs partRest (envOf (nm (stm 23)) (sc (stm 23)) L 200 cd)) Q No ⟨h, g, dr, k, o⟩ := by
  have z : sizeLine = 16777216 := rfl
  have W1 := W0.keeps F.keep
  refine wpAny_execs_cons (wpAny_If (wpAny_isTrue_Compare1 (rLd F hf (rStr fun _ _ => in_str (wpAny_truthy_bool ?_)))))
  refine ite_f (by decide +kernel) ?_
  iterate 3
    refine wpAny_execs_cons (wpAny_If (wpAny_isTrue_Compare1 (rLd F hf (rStr fun _ _ => PyProof.Rows.eq_str (wpAny_truthy_bool ?_)))))
    refine ite_f (by decide +kernel) ?_
  refine wpAny_execs_cons (wpAny_If (wpAny_isTrue_Compare1 (rLd F hf (rStr fun _ _ => PyProof.Rows.eq_str (wpAny_truthy_bool ?_)))))
  refine ite_t (by decide +kernel) ?_
  have h0 := Int.emod_nonneg turn (b := 20000) (by decide)
  have h9 := Int.emod_lt_of_pos turn (b := 20000) (by decide)
  refine wpAny_execs_cons (wpAny_Assign_Name (Call_ (rBl W1 (v := .builtin "chr") (by decide) ?_)))
  refine PyProof.Rows.callWith_builtin1 (args_cons (wpAny_BinOp (rInt fun _ _ => wpAny_BinOp (rLd F ht (rInt fun _ _ => rMod (by decide) fun _ _ => rAdd fun _ _ => ?_)))))
  rw [Int.fmod_eq_emod_of_nonneg _ (by decide)]
  refine args_nil (rChr (by omega) (by omega) fun tc kc => ?_)
  refine rSt F fun h₃ k₃ F3 B3 => ?_
  refine wpAny_execs_cons (wpAny_Assign_Name (rLd F3 rfl (rSt F3 fun h₄ k₄ F4 B4 => wpAny_execs_nil (wpAny_execs_nil (wpAny_execs_nil (wpAny_execs_nil (wpAny_execs_nil ?_)))))))
  refine part_tail hA.hd F4 h1 h2 (sg := ⟨#[(19968 + turn % 20000).toNat]⟩) (mt := ⟨#[(19968 + turn % 20000).toNat]⟩) rfl rfl (by show _ + 1 ≤ _; omega) (by show _ + 1 ≤ _; omega) fun h' k' m' u1 u2 F' K e1 e2 e3 => H h' _ k' m' u1 u2 F' ((((Kb.refl L h).same B3).same B4).trans K) e1 e2 e3
end
end
end Mine
namespace Mine
noncomputable section
section
variable {A : Around} {h h₀ : Heap} {g : Array GenState} {dr : Drawn} {k : Nat} {o : OsState} {w : World} {L : Addr} {cd : Value} {m : Str → Option Value} {Q : Flow → Shared → Prop} {mg mb : Str → Option Value}
theorem part_rest2 {W P : Str} {turn : Int} {t1 t2 t3 t4 tf tt : Tok} (hA : Rm A 1) (W0 : Wd w mg mb h₀) (F : Fr h₀ L h m) (h1 : m "written" = some (.str W t1)) (h2 : m "plain" = some (.str P t2)) (h4 : m "meant" = some (.str "a" t4))
    (hf : m "figure" = some (.str ⟨#[48 + 2]⟩ tf)) (ht : m "turn" = some (.int turn tt)) (z1 : W.length ≤ 1000) (z2 : P.length ≤ 1000)
    (H : ∀ h' dr' k' m' u1 u2, Fr h₀ L h' m' → Kb L h h' → m' "written" = some (.str (W ++ (signOf 2 turn).1) u1) → m' "plain" = some (.str (P ++ (signOf 2 turn).2) u2) → m' "number" = m "number" → Q .next ⟨h', g, dr', k', o⟩) :
    wpAny (model prog w) A (execs partRest (envOf (nm (stm 23)) (sc (stm 23)) L 200 cd)) Q No ⟨h, g, dr, k, o⟩ := by
  have z : sizeLine = 16777216 := rfl
  have W1 := W0.keeps F.keep
  obtain ⟨n, hn, e⟩ := emod_cases turn 5 (by decide)
  have e' : turn % 5 = n := e
  refine wpAny_execs_cons (wpAny_If (wpAny_isTrue_Compare1 (rLd F hf (rStr fun _ _ => in_str (wpAny_truthy_bool ?_)))))
  refine ite_f (by decide +kernel) ?_
  refine wpAny_execs_cons (wpAny_If (wpAny_isTrue_Compare1 (rLd F hf (rStr fun _ _ => PyProof.Rows.eq_str (wpAny_truthy_bool ?_)))))
  refine ite_t (by decide +kernel) ?_
  refine wpAny_execs_cons (wpAny_Assign_Name (Call_ (rBl W1 (v := .builtin "chr") (by decide) ?_)))
  refine PyProof.Rows.callWith_builtin1 (args_cons (Subscript_ (Tuple_ ?_)))
  refine args_cons (rInt fun c1 _ => args_cons (rInt fun c2 _ => args_cons (rInt fun c3 _ => args_cons (rInt fun c4 _ => args_cons (rInt fun c5 _ => args_nil (rNewTuple ?_ (by show 5 ≤ sizeLine; decide)))))))
  refine wpAny_BinOp (rLd (Frk F (keep_push _ _)) ht (rInt fun _ _ => rMod (by decide) fun _ _ => ?_))
  rw [Int.fmod_eq_emod_of_nonneg _ (by decide), e']
  have hx : ∃ t, [Value.int 97 c1, .int 65 c2, .int 119808 c3, .int 120068 c4, .int 119964 c5][n]? = some (.int (a5.getD n 0 : Nat) t) := by
    clear e e' H F h1 h2 h4 hf ht W1 W0 hA z z1 z2
    match n, hn with
    | 0, _ => exact ⟨_, rfl⟩
    | 1, _ => exact ⟨_, rfl⟩
    | 2, _ => exact ⟨_, rfl⟩
    | 3, _ => exact ⟨_, rfl⟩
    | 4, _ => exact ⟨_, rfl⟩
  have hr : a5.getD n 0 ≤ 1114111 := by
    clear hx e e' H F h1 h2 h4 hf ht W1 W0 hA z z1 z2
    match n, hn with
    | 0, _ => decide
    | 1, _ => decide
    | 2, _ => decide
    | 3, _ => decide
    | 4, _ => decide
  obtain ⟨tx, hx⟩ := hx
  refine item_tupleT (j := n) (tup_push h _) (by omega) (by omega) (seqIndex_nat hn) hx ?_
  refine args_nil (rChr (by omega) (by omega) fun tc kc => ?_)
  refine rSt (Frk F (keep_push _ _)) fun h₃ k₃ F3 B3 => wpAny_execs_nil (wpAny_execs_nil ?_)
  refine part_tail hA.hd F3 h1 h2 (sg := ⟨#[a5.getD n 0]⟩) rfl h4 (by show _ + 1 ≤ _; omega) (by show _ + 1 ≤ _; omega) fun h' k' m' u1 u2 F' K q1 q2 q3 => H h' _ k' m' u1 u2 F' ((((Kb.refl L h).keep (keep_push _ _)).same B3).trans K) ?_ q2 q3
  rw [q1]
  simp [signOf, e']
theorem part_rest7 {W P : Str} {turn : Int} {t1 t2 t3 t4 tf tt : Tok} (hA : Rm A 1) (W0 : Wd w mg mb h₀) (F : Fr h₀ L h m) (h1 : m "written" = some (.str W t1)) (h2 : m "plain" = some (.str P t2)) (h4 : m "meant" = some (.str "b" t4))
    (hf : m "figure" = some (.str ⟨#[48 + 7]⟩ tf)) (ht : m "turn" = some (.int turn tt)) (z1 : W.length ≤ 1000) (z2 : P.length ≤ 1000)
    (H : ∀ h' dr' k' m' u1 u2, Fr h₀ L h' m' → Kb L h h' → m' "written" = some (.str (W ++ (signOf 7 turn).1) u1) → m' "plain" = some (.str (P ++ (signOf 7 turn).2) u2) → m' "number" = m "number" → Q .next ⟨h', g, dr', k', o⟩) :
    wpAny (model prog w) A (execs partRest (envOf (nm (stm 23)) (sc (stm 23)) L 200 cd)) Q No ⟨h, g, dr, k, o⟩ := by
  have z : sizeLine = 16777216 := rfl
  have W1 := W0.keeps F.keep
  obtain ⟨n, hn, e⟩ := emod_cases turn 4 (by decide)
  have e' : turn % 4 = n := e
  refine wpAny_execs_cons (wpAny_If (wpAny_isTrue_Compare1 (rLd F hf (rStr fun _ _ => in_str (wpAny_truthy_bool ?_)))))
  refine ite_f (by decide +kernel) ?_
  iterate 2
    refine wpAny_execs_cons (wpAny_If (wpAny_isTrue_Compare1 (rLd F hf (rStr fun _ _ => PyProof.Rows.eq_str (wpAny_truthy_bool ?_)))))
    refine ite_f (by decide +kernel) ?_
  refine wpAny_execs_cons (wpAny_If (wpAny_isTrue_Compare1 (rLd F hf (rStr fun _ _ => PyProof.Rows.eq_str (wpAny_truthy_bool ?_)))))
  refine ite_t (by decide +kernel) ?_
  refine wpAny_execs_cons (wpAny_Assign_Name (Call_ (rBl W1 (v := .builtin "chr") (by decide) ?_)))
  refine PyProof.Rows.callWith_builtin1 (args_cons (Subscript_ (Tuple_ ?_)))
  refine args_cons (rInt fun c1 _ => args_cons (rInt fun c2 _ => args_cons (rInt fun c3 _ => args_cons (rInt fun c4 _ => args_nil (rNewTuple ?_ (by show 4 ≤ sizeLine; decide))))))
  refine wpAny_BinOp (rLd (Frk F (keep_push _ _)) ht (rInt fun _ _ => rMod (by decide) fun _ _ => ?_))
  rw [Int.fmod_eq_emod_of_nonneg _ (by decide), e']
  have hx : ∃ t, [Value.int 98 c1, .int 66 c2, .int 119809 c3, .int 8492 c4][n]? = some (.int (b4.getD n 0 : Nat) t) := by
    clear e e' H F h1 h2 h4 hf ht W1 W0 hA z z1 z2
    match n, hn with
    | 0, _ => exact ⟨_, rfl⟩
    | 1, _ => exact ⟨_, rfl⟩
    | 2, _ => exact ⟨_, rfl⟩
    | 3, _ => exact ⟨_, rfl⟩
  have hr : b4.getD n 0 ≤ 1114111 := by
    clear hx e e' H F h1 h2 h4 hf ht W1 W0 hA z z1 z2
    match n, hn with
    | 0, _ => decide
    | 1, _ => decide
    | 2, _ => decide
    | 3, _ => decide
  obtain ⟨tx, hx⟩ := hx
  refine item_tupleT (j := n) (tup_push h _) (by omega) (by omega) (seqIndex_nat hn) hx ?_
  refine args_nil (rChr (by omega) (by omega) fun tc kc => ?_)
  refine rSt (Frk F (keep_push _ _)) fun h₃ k₃ F3 B3 => wpAny_execs_nil (wpAny_execs_nil (wpAny_execs_nil (wpAny_execs_nil ?_)))
  refine part_tail hA.hd F3 h1 h2 (sg := ⟨#[b4.getD n 0]⟩) rfl h4 (by show _ + 1 ≤ _; omega) (by show _ + 1 ≤ _; omega) fun h' k' m' u1 u2 F' K q1 q2 q3 => H h' _ k' m' u1 u2 F' ((((Kb.refl L h).keep (keep_push _ _)).same B3).trans K) ?_ q2 q3
  rw [q1]
  simp [signOf, e']
end
end
end Mine
namespace Mine
noncomputable section
/-- a number's figures -/
def digs (n : Nat) : List Nat := (Nat.toDigits 10 n).map (fun c => c.toNat - 48)
theorem digs_lt (n : Nat) : ∀ d ∈ digs n, d < 10 := by
  intro d hd
  obtain ⟨c, hc, rfl⟩ := List.mem_map.mp hd
  have := digit_range (Nat.isDigit_of_mem_toDigits (by decide) (by decide) hc)
  omega
theorem digs_cps (n : Nat) : (Str.ofString (toString (n : Int))).cps.toList = (digs n).map (48 + ·) := by
  rw [KIN.signs_num, digs, List.map_map]
  refine List.map_congr_left fun c hc => ?_
  have := digit_range (Nat.isDigit_of_mem_toDigits (by decide) (by decide) hc)
  show c.toNat = 48 + (c.toNat - 48)
  omega
theorem digs_len {n : Nat} (h : n < 1000000) : (digs n).length ≤ 10 := by
  have h1 := KT.len_num (n := (n : Int)) (by omega) (by omega)
  have h2 : (Str.ofString (toString (n : Int))).cps.toList.length ≤ 10 := by rw [Array.length_toList]; exact h1
  rw [digs_cps, List.length_map] at h2
  exact h2
theorem spec_len : specL.all (fun p => decide (p.2.length ≤ 4)) = true := by decide +kernel
theorem specP_len (turn : Int) : (specP turn).2.length ≤ 4 := by
  unfold specP
  rw [List.getD_eq_getElem?_getD]
  cases e : specL[(turn % 16).toNat]? with
  | none => decide
  | some p => exact of_decide_eq_true (List.all_eq_true.mp spec_len p (List.mem_of_getElem? e))
theorem sign_len (d : Nat) (turn : Int) : (signOf d turn).1.length ≤ 1 ∧ (signOf d turn).2.length ≤ 4 := by
  unfold signOf
  split
  · decide
  split
  · exact ⟨Nat.le_refl 1, by first | (show (Str.ofString "").length ≤ 4; decide) | (show (Str.ofString "a").length ≤ 4; decide) | (show (Str.ofString "b").length ≤ 4; decide)⟩
  split
  · exact ⟨Nat.le_refl 1, by first | (show (Str.ofString "").length ≤ 4; decide) | (show (Str.ofString "a").length ≤ 4; decide) | (show (Str.ofString "b").length ≤ 4; decide)⟩
  split
  · exact ⟨Nat.le_refl 1, specP_len turn⟩
  split
  · decide
  split
  · exact ⟨Nat.le_refl 1, by first | (show (Str.ofString "").length ≤ 4; decide) | (show (Str.ofString "a").length ≤ 4; decide) | (show (Str.ofString "b").length ≤ 4; decide)⟩
  split
  · exact ⟨Nat.le_refl 1, show 1 ≤ 4 by decide⟩
  · decide
theorem partFold_len (number : Int) (ds : List Nat) : ∀ p : Str × Str, (ds.foldl (partStep number) p).1.length ≤ p.1.length + ds.length ∧ (ds.foldl (partStep number) p).2.length ≤ p.2.length + 4 * ds.length := by
  induction ds with
  | nil => intro p; exact ⟨Nat.le_refl _, Nat.le_refl _⟩
  | cons d r ih =>
    intro p
    have h1 := ih (partStep number p d)
    have h2 := sign_len d (number + p.1.length)
    have e1 : (partStep number p d).1.length = p.1.length + (signOf d (number + p.1.length)).1.length := Str.length_append _ _
    have e2 : (partStep number p d).2.length = p.2.length + (signOf d (number + p.1.length)).2.length := Str.length_append _ _
    rw [List.foldl_cons, List.length_cons]
    omega
theorem part_len (number : Int) (ds : List Nat) : (partF number ds).1.length ≤ ds.length ∧ (partF number ds).2.length ≤ 4 * ds.length := by
  have h := partFold_len number ds ("", "")
  have e : ((("", "") : Str × Str).1).length = 0 := rfl
  have e' : ((("", "") : Str × Str).2).length = 0 := rfl
  rw [e] at h
  have h' : _ ∧ _ ≤ 0 + 4 * ds.length := h
  unfold partF
  omega
section
variable {A : Around} {h h₀ : Heap} {g : Array GenState} {dr : Drawn} {k : Nat} {o : OsState} {w : World} {L : Addr} {cd : Value} {m : Str → Option Value} {Q : Flow → Shared → Prop} {mg mb : Str → Option Value}
theorem part_rest {d : Nat} (hd : d < 10) {W P : Str} {turn : Int} {t1 t2 t3 t4 tf tt : Tok} (hA : Rm A 1) (W0 : Wd w mg mb h₀) (F : Fr h₀ L h m) (h1 : m "written" = some (.str W t1)) (h2 : m "plain" = some (.str P t2))
    (h3 : m "sign" = some (.str (l10.getD d "") t3)) (h4 : m "meant" = some (.str (l10.getD d "") t4)) (hf : m "figure" = some (.str ⟨#[48 + d]⟩ tf)) (ht : m "turn" = some (.int turn tt)) (z1 : W.length ≤ 1000) (z2 : P.length ≤ 1000)
    (H : ∀ h' dr' k' m' u1 u2, Fr h₀ L h' m' → Kb L h h' → m' "written" = some (.str (W ++ (signOf d turn).1) u1) → m' "plain" = some (.str (P ++ (signOf d turn).2) u2) → m' "number" = m "number" → Q .next ⟨h', g, dr', k', o⟩) :
    wpAny (model prog w) A (execs partRest (envOf (nm (stm 23)) (sc (stm 23)) L 200 cd)) Q No ⟨h, g, dr, k, o⟩ := by
  match d, hd with
  | 0, _ => exact part_rest0 (turn := turn) (by omega) (hA.le (by omega)) F h1 h2 h3 h4 hf z1 z2 H (tt := tt)
  | 4, _ => exact part_rest0 (turn := turn) (by omega) (hA.le (by omega)) F h1 h2 h3 h4 hf z1 z2 H (tt := tt)
  | 6, _ => exact part_rest0 (turn := turn) (by omega) (hA.le (by omega)) F h1 h2 h3 h4 hf z1 z2 H (tt := tt)
  | 9, _ => exact part_rest0 (turn := turn) (by omega) (hA.le (by omega)) F h1 h2 h3 h4 hf z1 z2 H (tt := tt)
  | 1, _ => exact part_rest1 (by omega) hA W0 F h1 h2 h3 h4 hf ht z1 z2 H
  | 5, _ => exact part_rest1 (by omega) hA W0 F h1 h2 h3 h4 hf ht z1 z2 H
  | 2, _ => exact part_rest2 (t3 := t3) hA W0 F h1 h2 h4 hf ht z1 z2 H
  | 3, _ => exact part_rest3 (t3 := t3) (t4 := t4) hA W0 F h1 h2 hf ht z1 z2 (Nat.le_trans (specP_len turn) (by decide)) H
  | 7, _ => exact part_rest7 (t3 := t3) hA W0 F h1 h2 h4 hf ht z1 z2 H
  | 8, _ => exact part_rest8 (t3 := t3) (t4 := t4) hA W0 F h1 h2 hf ht z1 z2 H
end
theorem int_fig (d : Nat) (hd : d < 10) : PySem.intText? ⟨#[48 + d]⟩ = some (d : Int) := by
  have : ∀ d : _root_.Fin 10, PySem.intText? ⟨#[48 + d.val]⟩ = some (d.val : Int) := by decide +kernel
  exact this ⟨d, hd⟩
def strsOf : List Expr → Option (List Str)
  | [] => some []
  | e :: r => match e, strsOf r with
    | .Constant (.str x) _ _, some xs => some (x :: xs)
    | _, _ => none
theorem rStrs {M : Model} {A : Around} {E : Value → Shared → Prop} {env : Env} {g : Array GenState} {dr : Drawn} {o : OsState} {pos : Pos} : ∀ (es : List Expr) (xs : List Str), strsOf es = some xs → ∀ (h : Heap) (k : Nat) (Q : List Value → Shared → Prop),
    (∀ (k' : Nat) (vs : List Value), vs.length = xs.length → (∀ (i : Nat) (x : Str), xs[i]? = some x → ∃ t, vs[i]? = some (.str x t)) → Q vs ⟨h, g, dr, k', o⟩) →
    wpAny M A (spliced (backTo pos (starEach es env))) Q E ⟨h, g, dr, k, o⟩
  | [], xs, e, h, k, Q, H => by
    cases e
    exact args_nil (H k [] rfl (fun i p hi => by simp at hi))
  | e :: r, xs, hp, h, k, Q, H => by
    unfold strsOf at hp
    split at hp
    · rename_i x xs' h2
      cases hp
      refine args_cons (rStr fun t k => ?_)
      refine rStrs r xs' h2 _ _ _ fun k' vs hl hv => ?_
      refine H k' _ (by simp [hl]) fun i p hi => ?_
      cases i with
      | zero => cases hi; exact ⟨t, rfl⟩
      | succ i => exact hv i p hi
    · cases hp
theorem law_part_ct {w : World} {mg mb : Str → Option Value} {A : Around} {s : Shared} (W : Wd w mg mb s.heap) (hA : Rm A 2) (n : Nat) (hn : n < 1000000) (t : Tok) :
    Ct w A (.call (.ref 200) ⟨[.int (n : Int) t], []⟩) s (fun v h' => ∃ a t u, v = .ref a ∧ IsTup h' a #[.str (partF n (digs n)).1 t, .str (partF n (digs n)).2 u]) := by
  refine enter (i := 23) ["number"] [.int (n : Int) t] W (by decide) hA.room (fun _ _ => rfl) (by decide +kernel) (by decide +kernel) ?_
  intro cd h₁ L F W1
  have R1 : Rm (A.deeper (envOf (nm (stm 23)) (sc (stm 23)) L 200 cd)) 1 := hA.deeper
  refine wpAny_execs_cons ?_
  refine Assign_Tuple ?_ (hs := ?hs) (hw := ?hw)
  case hs => kernel_rfl!
  case hw => kernel_rfl!
  refine Tuple_ (args_cons (rStr fun u1 _ => args_cons (rStr fun u2 _ => args_nil (rNewTuple ?_ (by show 2 ≤ sizeLine; decide)))))
  refine assign_Tuple_tuple (x1 := 0) R1.hd (tup_push h₁ _) rfl rfl fun a₁ e1 => ?_
  have K1 : Keep _ a₁ := fun b o e => e1 b o (Nat.ne_of_lt (Heap.lt_size e)) e
  refine assignInOrder_cons (PyProof.Rows.assign_Name (rSt (Frk F ((keep_push _ _).trans K1)) fun h₂ k₂ F2 B2 => ?_))
  refine assignInOrder_cons (PyProof.Rows.assign_Name (rSt F2 fun h₃ k₃ F3 B3 => assignInOrder_nil ?_))
  refine wpAny_execs_cons ?_
  refine for_walk (fun i s' => ∃ h dr k m u1 u2, s' = ⟨h, s.gens, dr, k, s.os⟩ ∧ Fr s.heap L h m ∧ m "written" = some (.str (partF n ((digs n).take i)).1 u1) ∧ m "plain" = some (.str (partF n ((digs n).take i)).2 u2) ∧ m "number" = some (.int (n : Int) t)) ?_
  refine Call_ (rBl (W.keeps F3.keep) (v := .type "str") (by decide) ?_)
  refine PyProof.Rows.callWith_type1 (args_cons (rLd F3 rfl (args_nil (PySem.P.str_of_int ?_ ?_))))
  · show (n : Nat).log2 < 1920
    by_cases h0 : n = 0
    · rw [h0]; decide
    · exact (Nat.log2_lt h0).mpr (Nat.lt_of_lt_of_le hn (Nat.le_trans (show 1000000 ≤ 2 ^ 20 by decide) (Nat.pow_le_pow_right (by decide) (by decide))))
  refine wpAny_pyIter_str fun ob St Wk hst => ?_
  have hLI : L ≠ h₃.objs.size := Nat.ne_of_lt (frLt F3)
  have hcps : (Str.ofString (toString (n : Int))).cps = ((digs n).map (48 + ·)).toArray := by rw [← digs_cps]
  have hlen := digs_len hn
  refine ⟨h₃.objs.size, _, _, _, _, _, rfl, Wk _ R1.hd, hst, ?_, ?_, ?_⟩
  · exact ⟨_, _, _, _, u1, u2, rfl, Frk F3 (keep_push _ _), rfl, rfl, rfl⟩
  · rintro i s₃ v h' tk hi hst ⟨h, dr, k, m, u1, u2, rfl, Fh, hw, hp, hnum⟩ hP hst' hk
    have F' : Fr s.heap L h' m := Frb Fh hk (frNew F3) hLI
    obtain ⟨c, tf, hc, rfl⟩ := hP
    obtain ⟨d, hd, rfl⟩ : ∃ d, (digs n)[i]? = some d ∧ c = 48 + d := by
      have hc' : ((digs n).map (48 + ·)).toArray[i]? = some c := hcps ▸ hc
      rw [List.getElem?_toArray, List.getElem?_map, Option.map_eq_some_iff] at hc'
      obtain ⟨d, h1, h2⟩ := hc'
      exact ⟨d, h1, h2.symm⟩
    have hd10 : d < 10 := digs_lt n d (List.mem_of_getElem? hd)
    refine wpAny_pure (PyProof.Rows.assign_Name (rSt F' fun a₁ k₁ G1 B1 => ?_))
    have hl := part_len n ((digs n).take i)
    have hti : ((digs n).take i).length ≤ 10 := by rw [List.length_take]; omega
    have hstp : partF n ((digs n).take (i + 1)) = partStep n (partF n ((digs n).take i)) d := by
      rw [List.take_succ, hd]; simp [partF]
    generalize partF n ((digs n).take i) = pp at hw hp hl hstp
    have Wa := W.keeps G1.keep
    refine wpAny_execs_cons (wpAny_Assign_Name (wpAny_BinOp (rLd G1 hnum (Call_ (rBl Wa (v := .builtin "len") (by decide) ?_)))))
    refine PyProof.Rows.callWith_builtin1 (args_cons (rLd G1 hw (args_nil (PySem.P.len_str (by omega) (rAdd fun _ _ => ?_)))))
    refine rSt G1 fun a₂ k₂ G2 B2 => ?_
    refine wpAny_execs_cons ?_
    refine wpAny_Assign_Name ?_
    refine Subscript_ ?_
    refine Tuple_ ?_
    refine rStrs _ l10 (by kernel_rfl!) _ _ _ ?_
    intro k₂ vs hvl hvs
    refine rNewTuple ?_ (by rw [hvl]; decide)
    have G2' := Frk G2 (keep_push a₂ { cls := .type "tuple", data := .seq vs.toArray })
    refine Call_ (rBl (W.keeps G2'.keep) (v := .type "int") (by decide) ?_)
    refine PyProof.Rows.callWith_type1 (args_cons (rLd G2' rfl (args_nil (KIN.call_text (int_fig d hd10) (show 1 ≤ 640 by decide) ?_))))
    have h10 : l10.length = 10 := rfl
    obtain ⟨tx, hx⟩ := hvs d (l10.getD d "") (by rw [List.getD_eq_getElem?_getD, List.getElem?_eq_getElem (by rw [h10]; exact hd10)]; rfl)
    refine item_tupleT (j := d) (tup_push a₂ _) (by omega) (by omega) (by rw [hvl, h10]; exact seqIndex_nat hd10) hx ?_
    refine rSt G2' fun a₃ k₃ G3 B3 => ?_
    refine wpAny_execs_cons (wpAny_Assign_Name (rLd G3 rfl (rSt G3 fun a₄ k₄ G4 B4 => ?_)))
    have z1000 : pp.1.length ≤ 1000 ∧ pp.2.length ≤ 1000 := by omega
    refine part_rest (d := d) hd10 (W := pp.1) (P := pp.2) (turn := n + pp.1.length) R1 W G4 hw hp rfl rfl rfl rfl z1000.1 z1000.2 fun h₉ d₉ k₉ m₉ v1 v2 F9 B9 e1 e2 e3 => ?_
    have Bk : Kb L h' h₉ := (((((Kb.refl L h').same B1).same B2).keep (keep_push _ _)).same B3).same B4 |>.trans B9
    refine ⟨(Wk _ R1.hd).frame (i + 1) h' h₉ hst' fun b hb ob e => Bk b ob ?_ e, h₉, d₉, k₉, m₉, v1, v2, rfl, F9, ?_, ?_, ?_⟩
    · simp only [List.mem_cons, List.not_mem_nil, or_false] at hb
      rw [hb]; exact hLI.symm
    · rw [e1, hstp]; rfl
    · rw [e2, hstp]; rfl
    · rw [e3]; exact hnum
  · rintro s₃ h' tk hst ⟨h, dr, k, m, u1, u2, rfl, Fh, hw, hp, hnum⟩ hk
    have F' : Fr s.heap L h' m := Frb Fh hk (frNew F3) hLI
    rw [List.take_of_length_le (by rw [hcps]; simp)] at hw hp
    refine wpAny_execs_cons (wpAny_Return_some (Tuple_ (args_cons (rLd F' hw (args_cons (rLd F' hp (args_nil (rNewTuple ?_ (by show 2 ≤ sizeLine; decide)))))))))
    exact ⟨Keep.trans F'.keep (keep_push _ _), rfl, rfl, _, u1, u2, rfl, tup_push _ _⟩
end
end Mine
namespace Mine
noncomputable section
def Ks (s s' : Shared) : Prop := Keep s.heap s'.heap ∧ s'.gens = s.gens ∧ s'.os = s.os
theorem Ks.refl (s : Shared) : Ks s s := ⟨Keep.refl _, rfl, rfl⟩
def KT (h h' : Heap) : Prop := ∀ b items, IsTup h b items → IsTup h' b items
theorem KT.keep {h h' : Heap} (k : Keep h h') : KT h h' := fun b items t => t.keeps k
theorem KT.same {a : Addr} {h h' : Heap} (hs : Heap.SameBut a h h') (n : ∀ items, ¬ IsTup h a items) : KT h h' := by
  intro b items t
  have t' := t
  obtain ⟨o, e, r⟩ := t
  refine ⟨o, hs.extBut b o ?_ e, r⟩
  rintro rfl
  exact n items t'
theorem KT.but {wr : List Addr} {h h' : Heap} (hs : ∀ b o, b ∉ wr → h.get? b = some o → h'.get? b = some o) (n : ∀ b ∈ wr, ∀ items, ¬ IsTup h b items) : KT h h' := by
  intro b items t
  have t' := t
  obtain ⟨o, e, r⟩ := t
  exact ⟨o, hs b o (fun hb => n b hb items t') e, r⟩
theorem ns_no {h : Heap} {a : Addr} {m : Str → Option Value} (n : h.Ns a m) (items : Array Value) : ¬ IsTup h a items := by
  rintro ⟨o, e, c, k, d⟩
  obtain ⟨o', es, ep, e', d', _⟩ := n
  rw [e] at e'
  cases e'
  rw [d] at d'
  cases d'
theorem lst_no {h : Heap} {a : Addr} {vs : Array Value} (n : h.IsList a vs) (items : Array Value) : ¬ IsTup h a items := by
  rintro ⟨o, e, c, k, d⟩
  obtain ⟨o', e', c', _⟩ := n
  rw [e] at e'
  cases e'
  rw [c] at c'
  exact absurd c' (by decide)
theorem litr_no {h : Heap} {a b : Addr} {i : Nat} (n : h.IsListIter a b i) (items : Array Value) : ¬ IsTup h a items := by
  rintro ⟨o, e, c, k, d⟩
  obtain ⟨o', e', c', _⟩ := n
  rw [e] at e'
  cases e'
  rw [c] at c'
  exact absurd c' (by decide)
section
variable {w : World} {A : Around} {E : Value → Shared → Prop} {env : Env} {s : Shared}
abbrev testsOf (ifs : List Expr) (env : Env) : Sem Bool := forIn ifs true fun c r => if r = true then do let ok ← isTrue c env (eval c env); pure (ForInStep.yield ok) else pure (ForInStep.yield r)
theorem comp_block {elt iter : Expr} {x : Str} {px : Pos} {ifs : List Expr} {scope : Scope} {pos : Pos} {RR : Value → Env → Result → Shared → Prop} {hp2 : Heap} {g2 : Array GenState} {d2 : Drawn} {k2 : Nat} {o2 : OsState}
    {I : Addr} {fp wr : List Addr} {n : Nat} {P : Nat → Value → Prop} {St : Nat → Heap → Prop} (J : Nat → List Value → Heap → Prop)
    (hcell : ∀ y ∈ scope.names, y.2 ≠ .cell) (hkind : scope.kind = .function) (hx : scope.names.lookup x = some .local)
    (W : Walks prog w A I fp wr n P St) (hsz : n ≤ sizeLine) (hst : St 0 hp2) (hfp : ∀ b ∈ fp, b < hp2.objs.size) (hJ0 : J 0 [] hp2)
    (hJw : ∀ i j ys h h', St i h → (∀ b o, b ∉ wr → h.get? b = some o → h'.get? b = some o) → J j ys h → J j ys h')
    (hJk : ∀ i ys h h', KT h h' → J i ys h → J i ys h')
    (turn : ∀ C i v ys s₃ m₃, i < n → P i v → J i ys s₃.heap → s₃.heap.Ns C m₃ → m₃ x = some v → (∀ b o, b ∉ wr → hp2.get? b = some o → s₃.heap.get? b = some o) → s₃.gens = g2 → s₃.os = o2 →
        wpAny (model prog w) A (testsOf ifs (compEnv scope C env))
          (fun ok s₄ => Ks s₃ s₄ ∧ if ok = true then wpAny (model prog w) A (eval elt (compEnv scope C env)) (fun y s₅ => Ks s₄ s₅ ∧ J (i + 1) (ys ++ [y]) s₅.heap) No s₄ else J (i + 1) ys s₄.heap) No s₃)
    (fin : ∀ D C h' dr tk ys m', hp2.get? D = none → hp2.get? C = none → D ≠ C → h'.Ns C m' → h'.IsList D ys.toArray → J n ys h' → (∀ b o, b ∉ wr → hp2.get? b = some o → h'.get? b = some o) →
      RR (.ref D) (compEnv scope C env) (.ok .next) ⟨h', g2, dr, tk, o2⟩) :
    wpAny (model prog w) A (newList []) (fun acc s₃ => wpAny (model prog w) A (newFunctionEnv scope env.globals [] [] env.qual none .none (some env)) (fun cenv s₄ =>
      codeAny (model prog w) A (.compStart (.ListComp elt [⟨.Name x px, iter, ifs, 0⟩] scope pos) 0 (.ref I) acc { cenv with scope := scope }) (RR acc { cenv with scope := scope }) s₄) E s₃) E ⟨hp2, g2, d2, k2, o2⟩ := by
  refine wpAny_newObj_type (wpAny_newFunctionEnv hcell (by intro y hy; simp at hy) (fun h₁ hns₁ hsb₁ => ?_) hkind)
  dsimp only at hns₁ hsb₁ ⊢
  generalize hH2 : hp2.push { cls := .type "list", dict := none, data := .seq ([] : List Value).toArray } = H2 at hns₁ hsb₁ ⊢
  have hC : H2.objs.size = hp2.objs.size + 1 := by rw [← hH2, Heap.size_push]
  have hDC : hp2.objs.size ≠ H2.objs.size := by rw [hC]; exact Nat.ne_of_lt (Nat.lt_succ_self _)
  have below : ∀ b, b < hp2.objs.size → b ≠ H2.objs.size ∧ b ≠ hp2.objs.size := fun b hb => ⟨by rw [hC]; exact Nat.ne_of_lt (Nat.lt_succ_of_lt hb), Nat.ne_of_lt hb⟩
  have hDf : hp2.objs.size ∉ fp := fun hm => Nat.lt_irrefl _ (hfp _ hm)
  have hCf : H2.objs.size ∉ fp := fun hm => by have := hfp _ hm; rw [hC] at this; exact Nat.lt_irrefl _ (Nat.lt_of_succ_lt this)
  have hDw : hp2.objs.size ∉ wr := fun hm => hDf (W.sub _ hm)
  have hCw : H2.objs.size ∉ wr := fun hm => hCf (W.sub _ hm)
  have old : Keep hp2 h₁ := fun b o e => hsb₁.extBut b o (below b (Heap.lt_size e)).1 (Heap.get?_push_of_some _ (hH2 ▸ Heap.get?_push_of_some _ e))
  have hacc : h₁.IsList hp2.objs.size #[] := ⟨_, hsb₁.extBut _ _ hDC (Heap.get?_push_of_some _ (hH2 ▸ Heap.get?_push_size _ rfl)), rfl, _, rfl⟩
  have hst₁ : St 0 h₁ := W.frame _ _ _ hst fun b _ o e => old b o e
  have fresh : ∀ a, hp2.objs.size ≤ a → hp2.get? a = none := fun a ha => by
    cases e : hp2.get? a with
    | none => rfl
    | some o' => exact absurd (Heap.lt_size e) (Nat.not_lt.mpr ha)
  have loop : ∀ s₃ : Shared, s₃ = ⟨h₁, g2, d2, k2 + ([] : List (Str × Value)).length, o2⟩ →
      codeAny (model prog w) A (.compLoop (.ListComp elt [⟨.Name x px, iter, ifs, 0⟩] scope pos) 0 (.ref I) (.ref hp2.objs.size) (compEnv scope H2.objs.size env))
        (RR (.ref hp2.objs.size) (compEnv scope H2.objs.size env)) s₃ := by
    rintro s₃ rfl
    refine codeAny_compLoop_tests
      (fun k s' => ∃ i ys h dr tk m, s' = ⟨h, g2, dr, tk, o2⟩ ∧ i ≤ n ∧ k = n + 1 - i ∧ ys.length ≤ i ∧ St i h ∧ J i ys h ∧ h.IsList hp2.objs.size ys.toArray ∧ h.Ns H2.objs.size m ∧ (∀ b o, b ∉ wr → hp2.get? b = some o → h.get? b = some o)) ?_ (n + 1)
      ⟨0, [], h₁, _, _, _, rfl, Nat.zero_le _, rfl, Nat.zero_le _, hst₁, hJk _ _ _ _ (KT.keep old) hJ0, hacc, hns₁, fun b o _ e => old b o e⟩
    rintro k s' ⟨i, ys, h, dr, tk, m, rfl, hi, rfl, hyl, hsti, hJi, hD, hn, hk⟩
    by_cases hlt : i < n
    · refine W.item i _ _ _ hlt hsti fun v h₂ tk₂ hPv hst₂ hk₂ => ?_
      have hJ2 : J i ys h₂ := hJw _ _ _ _ _ hsti hk₂ hJi
      have hn2 : h₂.Ns H2.objs.size m := hn.at' fun o e => hk₂ _ o hCw e
      refine wpAny_assign_Name (wpAny_storeName_local (env := compEnv scope H2.objs.size env) hx hn2 (fun h₃ hn₃ hs₃ => ?_) (by simp [compEnv, hkind]))
      dsimp only at hn₃ hs₃ ⊢
      have hn₃' : h₃.Ns H2.objs.size _ := hn₃
      have hs₃' : Heap.SameBut H2.objs.size h₂ h₃ := hs₃
      have hJ3 : J i ys h₃ := hJk _ _ _ _ (KT.same hs₃' (ns_no hn2)) hJ2
      have hst₃ : St (i + 1) h₃ := W.frame _ _ _ hst₂ fun b hb o e => hs₃'.extBut b o (fun h => hCf (h ▸ hb)) e
      have hk₃ : ∀ b o, b ∉ wr → hp2.get? b = some o → h₃.get? b = some o := fun b o hb e => hs₃'.extBut b o (below b (Heap.lt_size e)).1 (hk₂ b o hb (hk b o hb e))
      have hD₃ : h₃.IsList hp2.objs.size ys.toArray := by
        obtain ⟨od, e, r⟩ := hD
        exact ⟨od, hs₃'.extBut _ od hDC (hk₂ _ od hDw e), r⟩
      refine wpAny_mono (turn H2.objs.size i v ys ⟨h₃, g2, dr, _, o2⟩ _ hlt hPv hJ3 hn₃' (by simp) hk₃ rfl rfl) (fun ok s₄ h₄ => ?_) fun _ _ e => e.elim
      obtain ⟨⟨K4, hg4, ho4⟩, h₄⟩ := h₄
      obtain ⟨p4, g4, d4, k4, o4⟩ := s₄
      dsimp only at K4 hg4 ho4 h₄
      subst hg4 ho4
      cases ok with
      | false =>
        refine ⟨n + 1 - (i + 1), by omega, i + 1, ys, p4, d4, k4, _, rfl, hlt, rfl, by omega, W.frame _ _ _ hst₃ fun b _ o e => K4 b o e, h₄, ?_, hn₃'.keeps K4, fun b o hb e => K4 b o (hk₃ b o hb e)⟩
        obtain ⟨od, e, r⟩ := hD₃
        exact ⟨od, K4 _ _ e, r⟩
      | true =>
        refine wpAny_mono h₄ (fun y s₅ h₅ => ?_) fun _ _ e => e.elim
        obtain ⟨⟨K5, hg5, ho5⟩, hJ5⟩ := h₅
        obtain ⟨p5, g5, d5, k5, o5⟩ := s₅
        dsimp only at K5 hg5 ho5 hJ5
        subst hg5 ho5
        have hD₅ : p5.IsList hp2.objs.size ys.toArray := by
          obtain ⟨od, e, r⟩ := hD₃
          exact ⟨od, K5 _ _ (K4 _ _ e), r⟩
        refine wpAny_list_append hD₅ (fun h₆ hl₆ hs₆ => ?_) (by rw [List.size_toArray]; omega)
        refine ⟨n + 1 - (i + 1), by omega, i + 1, ys ++ [y], h₆, d5, k5, _, rfl, hlt, rfl, by rw [List.length_append, List.length_singleton]; omega, W.frame _ _ _ hst₃ fun b hb o e => hs₆.extBut b o (fun h => hDf (h ▸ hb)) (K5 b o (K4 b o e)), hJk _ _ _ _ (KT.same hs₆ (lst_no hD₅)) hJ5, by simpa using hl₆, ((hn₃'.keeps K4).keeps K5).sameBut hs₆ (Ne.symm hDC), fun b o hb e => hs₆.extBut b o (below b (Heap.lt_size e)).2 (K5 b o (K4 b o (hk₃ b o hb e)))⟩
    · obtain rfl : i = n := by omega
      refine W.done _ _ _ hsti fun h₂ tk₂ hk₂ => ?_
      have hn2 : h₂.Ns H2.objs.size m := hn.at' fun o e => hk₂ _ o hCw e
      refine fin hp2.objs.size H2.objs.size h₂ dr tk₂ ys m (fresh _ (Nat.le_refl _)) (fresh _ (by rw [hC]; exact Nat.le_succ _)) hDC hn2 ?_ (hJw _ _ _ _ _ hsti hk₂ hJi) fun b o hb e => hk₂ b o hb (hk b o hb e)
      obtain ⟨od, e, r⟩ := hD
      exact ⟨od, hk₂ _ od hDw e, r⟩
  exact codeAny_compStart_list (loop _ rfl) (W.self 0 _ _ _ hst₁ (loop _ rfl))
def CompOk (w : World) (A : Around) (env : Env) (scope : Scope) (x : Str) (ifs : List Expr) (elt : Expr) (Q : Value → Shared → Prop) (it : Value) (s₂ : Shared) : Prop :=
  ∃ I fp wr n P St, ∃ J : Nat → List Value → Heap → Prop, it = .ref I ∧ Walks prog w A I fp wr n P St ∧ n ≤ sizeLine ∧ St 0 s₂.heap ∧ (∀ b ∈ fp, b < s₂.heap.objs.size) ∧ J 0 [] s₂.heap ∧
      (∀ i j ys h h', St i h → (∀ b o, b ∉ wr → h.get? b = some o → h'.get? b = some o) → J j ys h → J j ys h') ∧
      (∀ i ys h h', KT h h' → J i ys h → J i ys h') ∧
      (∀ C i v ys s₃ m₃, i < n → P i v → J i ys s₃.heap → s₃.heap.Ns C m₃ → m₃ x = some v → (∀ b o, b ∉ wr → s₂.heap.get? b = some o → s₃.heap.get? b = some o) → s₃.gens = s₂.gens → s₃.os = s₂.os →
        wpAny (model prog w) A (testsOf ifs (compEnv scope C env))
          (fun ok s₄ => Ks s₃ s₄ ∧ if ok = true then wpAny (model prog w) A (eval elt (compEnv scope C env)) (fun y s₅ => Ks s₄ s₅ ∧ J (i + 1) (ys ++ [y]) s₅.heap) No s₄ else J (i + 1) ys s₄.heap) No s₃) ∧
      (∀ D h' dr tk ys, s₂.heap.get? D = none → h'.IsList D ys.toArray → J n ys h' → (∀ b o, b ∉ wr → s₂.heap.get? b = some o → h'.get? b = some o) → Q (.ref D) ⟨h', s₂.gens, dr, tk, s₂.os⟩)
theorem comp_walk {elt iter : Expr} {x : Str} {px : Pos} {ifs : List Expr} {scope : Scope} {pos : Pos} {Q : Value → Shared → Prop}
    (hsc : (scope.names.all (fun y => decide (y.2 ≠ .free) && decide (y.2 ≠ .cell) && (decide (y.2 ≠ .local) || decide (scope.names.lookup y.1 = some .local))) && decide (scope.kind = .function) && decide (scope.names.lookup x = some .local)) = true)
    (h : wpAny (model prog w) A (eval iter env) (fun xv s₁ => wpAny (model prog w) A (pyIter xv) (CompOk w A env scope x ifs elt Q) E s₁) E s)
    (hs : ∀ x, foldedSetIterable iter env x = pure x := by intro _; rfl) :
    wpAny (model prog w) A (eval (.ListComp elt [⟨.Name x px, iter, ifs, 0⟩] scope pos) env) Q E s := by
  simp only [Bool.and_eq_true, decide_eq_true_eq, List.all_eq_true, Bool.or_eq_true] at hsc
  obtain ⟨⟨hall, hkind⟩, hx⟩ := hsc
  refine wpAny_ListComp (fun y hy => (hall y hy).1.1) hkind (fun y hy e => (hall y hy).2.resolve_left (fun n => n e)) (wpAny_mono h (fun xv s₁ h₁ => wpAny_mono h₁ (fun it s₂ h₂ => ?_) fun _ _ e => e) fun _ _ e => e) hs
  obtain ⟨I, fp, wr, n, P, St, J, rfl, W, hsz, hst, hfp, hJ0, hJw, hJk, turn, fin⟩ := h₂
  have hcell : ∀ y ∈ scope.names, y.2 ≠ .cell := fun y hy => (hall y hy).1.2
  obtain ⟨hp2, g2, d2, k2, o2⟩ := s₂
  dsimp only at hst hfp hJ0 turn fin
  refine comp_block (RR := fun acc cenv r s' => ∃ m, s'.heap.Ns cenv.locals m ∧ ∀ h', Heap.SameBut cenv.locals s'.heap h' →
    match r with | .ok _ => Q acc { s' with heap := h' } | .error x => wpAny (model prog w) A (passOn "comprehension.variables-let-go" x cenv) Q E { s' with heap := h' }) J hcell hkind hx W hsz hst hfp hJ0 hJw hJk turn ?_
  intro D C h' dr tk ys m' hD hC hDC hn hl hJ hk
  refine ⟨m', hn, fun h'' hs'' => fin D h'' dr tk ys hD (hl.extBut hs''.extBut hDC) (hJk _ _ _ _ (KT.same hs'' (ns_no hn)) hJ) fun b o hb e => hs''.extBut b o (by rintro rfl; rw [hC] at e; cases e) (hk b o hb e)⟩
def CompOkA (w : World) (A : Around) (env : Env) (scope : Scope) (x y : Str) (ifs : List Expr) (elt : Expr) (h₀ : Heap) (L : Addr) (Q : Flow → Shared → Prop) (it : Value) (s₂ : Shared) : Prop :=
  ∃ I fp wr n P St m, ∃ J : Nat → List Value → Heap → Prop, it = .ref I ∧ Walks prog w A I fp wr n P St ∧ n ≤ sizeLine ∧ St 0 s₂.heap ∧ (∀ b ∈ fp, b < s₂.heap.objs.size) ∧ J 0 [] s₂.heap ∧
      (∀ i j ys h h', St i h → (∀ b o, b ∉ wr → h.get? b = some o → h'.get? b = some o) → J j ys h → J j ys h') ∧
      (∀ i ys h h', KT h h' → J i ys h → J i ys h') ∧ Fr h₀ L s₂.heap m ∧ (∀ b ∈ wr, h₀.get? b = none) ∧ L ∉ wr ∧
      (∀ C i v ys s₃ m₃, i < n → P i v → J i ys s₃.heap → s₃.heap.Ns C m₃ → m₃ x = some v → (∀ b o, b ∉ wr → s₂.heap.get? b = some o → s₃.heap.get? b = some o) → s₃.gens = s₂.gens → s₃.os = s₂.os →
        wpAny (model prog w) A (testsOf ifs (compEnv scope C env))
          (fun ok s₄ => Ks s₃ s₄ ∧ if ok = true then wpAny (model prog w) A (eval elt (compEnv scope C env)) (fun y s₅ => Ks s₄ s₅ ∧ J (i + 1) (ys ++ [y]) s₅.heap) No s₄ else J (i + 1) ys s₄.heap) No s₃) ∧
      (∀ D h' dr tk ys, s₂.heap.get? D = none → h'.IsList D ys.toArray → J n ys h' → Fr h₀ L h' (fun z => if z = y then some (.ref D) else m z) → (∀ b o, b ≠ L → b ∉ wr → s₂.heap.get? b = some o → h'.get? b = some o) → Q .next ⟨h', s₂.gens, dr, tk, s₂.os⟩)
theorem comp_assign {elt iter : Expr} {x y : Str} {px py : Pos} {ifs : List Expr} {scope : Scope} {pos spos : Pos} {Q : Flow → Shared → Prop} {h₀ : Heap} {L a : Addr} {nme : Str} {fsc : Scope} {cd : Value}
    (hsc : (scope.names.all (fun y => decide (y.2 ≠ .free) && decide (y.2 ≠ .cell) && (decide (y.2 ≠ .local) || decide (scope.names.lookup y.1 = some .local))) && decide (scope.kind = .function) && decide (scope.names.lookup x = some .local)) = true)
    (hsw : swapsWith (.ListComp elt [⟨.Name x px, iter, ifs, 0⟩] scope pos) (some (.Name y py)) spos.line (envOf nme fsc L a cd) = pure true)
    (hk : fsc.kind = .function) (hy : (envOf nme fsc L a cd).kindOf y = some .local)
    (h : wpAny (model prog w) A (eval iter (envOf nme fsc L a cd)) (fun xv s₁ => wpAny (model prog w) A (pyIter xv) (CompOkA w A (envOf nme fsc L a cd) scope x y ifs elt h₀ L Q) E s₁) E s)
    (hs : ∀ x, foldedSetIterable iter (envOf nme fsc L a cd) x = pure x := by intro _; rfl) :
    wpAny (model prog w) A (exec (.Assign [.Name y py] (.ListComp elt [⟨.Name x px, iter, ifs, 0⟩] scope pos) spos) (envOf nme fsc L a cd)) Q E s := by
  simp only [Bool.and_eq_true, decide_eq_true_eq, List.all_eq_true, Bool.or_eq_true] at hsc
  obtain ⟨⟨hall, hkind⟩, hx⟩ := hsc
  rw [exec_Assign_Name_used _ _ _ _ hsw]
  refine wpAny_bind (wpAny_standAt (wpAny_bind ?_))
  show wpAny _ A (do let _ ← comprehension (.ListComp elt [⟨.Name x px, iter, ifs, 0⟩] scope pos) scope (envOf nme fsc L a cd) _ (newList []) false (eval iter (envOf nme fsc L a cd)) (some (assign (.Name y py) (envOf nme fsc L a cd)))) _ _ s
  refine wpAny_bind (wpAny_mono (wpAny_comprehension_use (Q := fun _ s' => Q .next s') rfl hs (fun y hy => (hall y hy).1.1) hkind (fun y hy e => (hall y hy).2.resolve_left (fun n => n e)) (wpAny_mono h (fun xv s₁ h₁ => wpAny_mono h₁ (fun it s₂ h₂ => ?_) fun _ _ e => e) fun _ _ e => e))
    (fun _ s' hq => wpAny_pure (wpAny_pure hq)) fun _ _ e => e)
  obtain ⟨I, fp, wr, n, P, St, m, J, rfl, W, hsz, hst, hfp, hJ0, hJw, hJk, F, hwr, hLw, turn, fin⟩ := h₂
  have hcell : ∀ y ∈ scope.names, y.2 ≠ .cell := fun y hy => (hall y hy).1.2
  obtain ⟨hp2, g2, d2, k2, o2⟩ := s₂
  dsimp only at hst hfp hJ0 turn fin F
  refine comp_block (RR := fun acc cenv r s' => match r with
      | .ok _ => wpAny (model prog w) A (assign (.Name y py) (envOf nme fsc L a cd) acc) (fun _ s'' => ∃ m, s''.heap.Ns cenv.locals m ∧ ∀ h', Heap.SameBut cenv.locals s''.heap h' → Q .next { s'' with heap := h' }) E s'
      | .error x => ∃ m, s'.heap.Ns cenv.locals m ∧ ∀ h', Heap.SameBut cenv.locals s'.heap h' → wpAny (model prog w) A (passOn "comprehension.variables-let-go" x cenv) (fun _ s' => Q .next s') E { s' with heap := h' }) J hcell hkind hx W hsz hst hfp hJ0 hJw hJk turn ?_
  intro D C h' dr tk ys m' hD hC hDC hnC hl hJ hkk
  have hn := F.ns
  have hLC : L ≠ C := by rintro rfl; obtain ⟨o, _, _, ho, _⟩ := hn; rw [hC] at ho; cases ho
  have hLD : L ≠ D := by rintro rfl; obtain ⟨o, _, _, ho, _⟩ := hn; rw [hD] at ho; cases ho
  have hn1 : h'.Ns L m := hn.at' fun o e => hkk _ o hLw e
  have F1 : Fr h₀ L h' m := ⟨hn1, fun b o e => hkk b o (fun hb => by rw [hwr b hb] at e; cases e) (F.keep b o e), F.above⟩
  refine PyProof.Rows.assign_Name (rSt F1 (fun h₂ k₂ F2 hs₂ => ?_) hk hy)
  refine ⟨m', hnC.sameBut hs₂ (Ne.symm hLC), fun h₃ hs₃ => ?_⟩
  have hn2 : h₂.Ns C m' := hnC.sameBut hs₂ (Ne.symm hLC)
  have hCn : h₀.get? C = none := by
    cases e : h₀.get? C with
    | none => rfl
    | some o => have := F.keep _ _ e; rw [hC] at this; cases this
  refine fin D h₃ dr _ ys hD ((hl.extBut hs₂.extBut (Ne.symm hLD)).extBut hs₃.extBut hDC) (hJk _ _ _ _ (KT.same hs₃ (ns_no hn2)) (hJk _ _ _ _ (KT.same hs₂ (ns_no hn1)) hJ)) ?_ fun b o hbL hbf e =>
    hs₃.extBut b o (by rintro rfl; rw [hC] at e; cases e) (hs₂.extBut b o hbL (hkk b o hbf e))
  exact ⟨F2.ns.sameBut hs₃ hLC, fun b o e => hs₃.extBut b o (by rintro rfl; rw [hCn] at e; cases e) (F2.keep b o e), F2.above⟩
end
end
end Mine
namespace Mine
noncomputable section
section
variable {M : Model} {A : Around} {E : Value → Shared → Prop} {env : Env} {h : Heap} {g : Array GenState} {dr : Drawn} {k : Nat} {o : OsState} {Q : Value → Shared → Prop} {w : World} {mg mb : Str → Option Value}
theorem gGl {x : Str} {pos : Pos} {v : Value} (W : Wd w mg mb h) (hv : (x, v) ∈ globL) (H : Q v ⟨h, g, dr, k, o⟩) (hg : env.globals = mainGlobals := by rfl)
    (hk : env.scope.kind = .function := by rfl) (hx : env.kindOf x = some .globalImplicit := by rfl)
    (hd : (x == ("__debug__" : Str)) = false := by decide) : wpAny M A (eval (.Name x pos) env) Q E ⟨h, g, dr, k, o⟩ :=
  Name_function_global hk hx (loadGlobal_global (by rw [hg]; exact W.g) (W.gv _ hv) H) hd
theorem gBl {x : Str} {pos : Pos} {v : Value} (W : Wd w mg mb h) (hv : (x, v) ∈ bltL) (H : Q v ⟨h, g, dr, k, o⟩) (hg : env.globals = mainGlobals := by rfl) (hb : env.builtins = builtinsNs := by rfl)
    (hk : env.scope.kind = .function := by rfl) (hx : env.kindOf x = some .globalImplicit := by rfl)
    (hd : (x == ("__debug__" : Str)) = false := by decide) : wpAny M A (eval (.Name x pos) env) Q E ⟨h, g, dr, k, o⟩ :=
  Name_function_global hk hx (loadGlobal_builtin (by rw [hg]; exact W.g) (W.bv _ hv).1 (by rw [hb]; exact W.b) (W.bv _ hv).2 H) hd
theorem gLd {x : Str} {pos : Pos} {v : Value} {m : Str → Option Value} (N : h.Ns env.locals m) (hv : m x = some v) (H : Q v ⟨h, g, dr, k, o⟩)
    (hk : env.scope.kind = .function := by rfl) (hl : env.kindOf x = some .local := by rfl)
    (hd : (x == ("__debug__" : Str)) = false := by decide) : wpAny M A (eval (.Name x pos) env) Q E ⟨h, g, dr, k, o⟩ := wpAny_Name (wpAny_loadName_local hk hl N hv H) hd
theorem gDef1 {f : Str} {b i : Nat} {e : Expr} {np pos : Pos} (W : Wd w mg mb h) (hg : (f, .ref b) ∈ globL) (hf : (b, i) ∈ fnL)
    (he : wpAny (model prog w) A (eval e env) (fun v s₁ => Keep h s₁.heap ∧ wpAny (model prog w) A (call (.ref b) [v]) Q E s₁) E ⟨h, g, dr, k, o⟩) (hgl : env.globals = mainGlobals := by rfl)
    (hk : env.scope.kind = .function := by rfl) (hx : env.kindOf f = some .globalImplicit := by rfl)
    (hd : (f == ("__debug__" : Str)) = false := by decide) (hs : starEach [e] env = (false, eval e env) :: starEach [] env := by rfl)
    (hc : eval (.Call (.Name f np) [e] [] pos) env = (do callWith pos (← eval (.Name f np) env) [] (backTo pos (starEach [e] env)) (backToKw pos (keywordEach [] env))) := by rfl) :
    wpAny (model prog w) A (eval (.Call (.Name f np) [e] [] pos) env) Q E ⟨h, g, dr, k, o⟩ := by
  obtain ⟨ob, pm, c, ho, hdt, _⟩ := W.fn (b, i) hf
  refine Call_ (gGl W hg ?_ hgl hk hx hd) hc
  exact PyProof.Rows.callWith_def hdt (args_cons (wpAny_mono he (fun v s₁ x => args_nil ⟨x.1 _ _ ho, x.2⟩) fun _ _ x => x) hs) hs
end
theorem strsSnoc {vs : List Value} {ys : List Str} (h : StrsAre vs ys) (y : Str) (t : Tok) : StrsAre (vs ++ [.str y t]) (ys ++ [y]) := by
  induction h with
  | nil => exact .cons _ _ .nil
  | cons a b _ ih => exact .cons _ _ ih
/-- the signs left, each by B.3 -/
def prepL (l : List Nat) : List Str := (l.filter fun (c : Nat) => !b1L.contains (c : Int)).map m3
def prepF (x : Str) : Str := Txt.join "" (prepL x.cps.toList)
theorem prepL_app (a b : List Nat) : prepL (a ++ b) = prepL a ++ prepL b := by unfold prepL; rw [List.filter_append, List.map_append]
theorem pairs_len : pairs.all (fun p => decide (p.2.length ≤ 8)) = true := by decide +kernel
theorem lookup_mem {l : List (Int × Str)} {k : Int} {v : Str} (h : l.lookup k = some v) : (k, v) ∈ l := by
  induction l with
  | nil => cases h
  | cons p r ih =>
    obtain ⟨a, b⟩ := p
    rw [List.lookup_cons] at h
    split at h
    · rename_i e; cases h; rw [beq_iff_eq] at e; subst e; exact List.mem_cons_self ..
    · exact List.mem_cons_of_mem _ (ih h)
theorem m3_len (c : Nat) : (m3 c).length ≤ 8 := by
  unfold m3
  cases e : b3 c with
  | none => exact Nat.le_trans (txt_lower_le c) (by decide)
  | some x => exact of_decide_eq_true (List.all_eq_true.mp pairs_len _ (lookup_mem e))
theorem prepL_len (l : List Nat) : ((prepL l).map (·.length)).sum ≤ 8 * l.length ∧ (prepL l).length ≤ l.length := by
  induction l with
  | nil => exact ⟨Nat.le_refl _, Nat.le_refl _⟩
  | cons c r ih =>
    rw [show c :: r = [c] ++ r from rfl, prepL_app]
    have h1 := m3_len c
    have h2 : ((prepL [c]).map (·.length)).sum ≤ 8 ∧ (prepL [c]).length ≤ 1 := by
      unfold prepL
      by_cases hb : (!b1L.contains (c : Int)) = true
      · simp only [List.filter_cons, hb, if_true, List.filter_nil, List.map_cons, List.map_nil, List.sum_cons, List.sum_nil, List.length_cons, List.length_nil]; omega
      · simp only [List.filter_cons, hb, List.filter_nil]; simp
    simp only [List.map_append, List.sum_append, List.length_append, List.length_cons, List.length_nil]
    omega
theorem law_prepared_ct {w : World} {mg mb : Str → Option Value} {A : Around} {s : Shared} (W : Wd w mg mb s.heap) (hA : Rm A 1) (x : Str) (t : Tok) (hz : x.length ≤ 10000) :
    Ct w A (.call (.ref 205) ⟨[.str x t], []⟩) s (fun v _ => ∃ t, v = .str (prepF x) t) := by
  refine enter (i := 24) ["path"] [.str x t] W (by decide) hA.room (fun _ _ => rfl) (by decide +kernel) (by decide +kernel) ?_
  intro cd h₁ L F W1
  have R1 : Rm (A.deeper (envOf (nm (stm 24)) (sc (stm 24)) L 205 cd)) 0 := hA.deeper
  refine wpAny_execs_cons (wpAny_Return_some ?_)
  refine MethodCall_ (rStr fun te ke => ?_)
  refine GM.join ?_
  refine callWith_method1 (args_cons ?_)
  refine comp_walk (by decide +kernel) ?_
  refine rLd F rfl ?_
  refine wpAny_pyIter_str fun ob St Wk hst => ?_
  have z : sizeLine = 16777216 := rfl
  refine ⟨h₁.objs.size, _, _, _, _, St, fun i ys _ => StrsAre ys (prepL (x.cps.toList.take i)), rfl, Wk _ R1.hd, ?_, hst, ?_, .nil, fun _ _ _ _ _ _ _ j => j, fun _ _ _ _ _ j => j, ?_, ?_⟩
  · have : x.cps.size ≤ 10000 := hz
    omega
  · intro b hb
    rw [List.mem_singleton.mp hb, Heap.size_push]; exact Nat.lt_succ_self _
  · rintro C i v ys ⟨p3, g3, d3, k3, o3⟩ m₃ hi ⟨c, u, hc, rfl⟩ hys N hm hk hg ho
    dsimp only at N hk hg ho
    have K3 : Keep h₁ p3 := fun b o e => hk b o (by rw [List.mem_singleton]; exact Nat.ne_of_lt (Heap.lt_size e)) (Heap.get?_push_of_some _ e)
    have W3 := W1.keeps K3
    have hc' : x.cps.toList[i]? = some c := by rw [Array.getElem?_toList]; exact hc
    have hstp : prepL (x.cps.toList.take (i + 1)) = prepL (x.cps.toList.take i) ++ prepL [c] := by
      rw [List.take_succ, hc', prepL_app]; rfl
    refine wpAny_tests_one (wpAny_isTrue_Not (wpAny_isTrue_value (gDef1 (b := 133) (i := 17) W3 (by decide) (by decide) (gLd (env := compEnv _ C _) N hm ⟨Keep.refl _, rCt (in_table_b1_ct W3 R1 c u) ?_⟩)) (by rfl)))
    rintro v h₄ d₄ k₄ K4 rfl
    refine wpAny_truthy_bool ?_
    refine ⟨⟨K4, rfl, rfl⟩, ?_⟩
    cases hb : b1L.contains (c : Int) with
    | true =>
      show StrsAre ys (prepL (x.cps.toList.take (i + 1)))
      rw [hstp, show prepL [c] = [] by unfold prepL; rw [List.filter_cons, hb]; rfl, List.append_nil]
      exact hys
    | false =>
      show wpAny _ _ _ _ _ _
      refine gDef1 (b := 179) (i := 19) (W3.keeps K4) (by decide) (by decide) (gLd (env := compEnv _ C _) (N.keeps K4) hm ⟨Keep.refl _, rCt (map_table_b3_ct (W3.keeps K4) R1 c u) ?_⟩)
      rintro v h₅ d₅ k₅ K5 ⟨tm, rfl⟩
      refine ⟨⟨K5, rfl, rfl⟩, ?_⟩
      show StrsAre _ (prepL (x.cps.toList.take (i + 1)))
      rw [hstp, show prepL [c] = [m3 c] by unfold prepL; rw [List.filter_cons, hb]; rfl]
      exact strsSnoc hys _ _
  · intro D h' d' tk ys hD hl hJ hk
    have hJ' : StrsAre ys (prepL x.cps.toList) := by rw [show x.cps.toList = x.cps.toList.take x.cps.size by rw [List.take_of_length_le]; simp]; exact hJ
    have hlen := prepL_len x.cps.toList
    have hz' : x.cps.toList.length ≤ 10000 := by rw [Array.length_toList]; exact hz
    refine args_nil (join_listW hl hJ' (by decide) (by omega) fun t k => ?_)
    refine ⟨Keep.trans F.keep fun b o e => hk b o (by rw [List.mem_singleton]; exact Nat.ne_of_lt (Heap.lt_size e)) (Heap.get?_push_of_some _ e), rfl, rfl, t, rfl⟩
end
end Mine
namespace Mine
noncomputable section
section
variable {A : Around} {E : Value → Shared → Prop} {env : Env} {h h₀ : Heap} {g : Array GenState} {dr : Drawn} {k : Nat} {o : OsState} {Q : Value → Shared → Prop} {w : World} {mg mb : Str → Option Value}
  {n : Str} {scope : Scope} {L a : Addr} {cd : Value} {m : Str → Option Value}
theorem rConcat {l b : Addr} {vs ws : List Value} (hl : h.IsList l vs.toArray) (hb : h.IsList b ws.toArray) (hsz : vs.length + ws.length ≤ sizeLine)
    (H : Q (.ref h.objs.size) ⟨h.push { cls := .type "list", data := .seq (vs ++ ws).toArray }, g, dr, k, o⟩) : wpAny (model prog w) A (binaryOp .Add (.ref l) (.ref b)) Q E ⟨h, g, dr, k, o⟩ := by
  obtain ⟨⟨cls, dd, data, sl⟩, ho, hc, n, hd⟩ := id hl
  obtain ⟨⟨cls2, dd2, data2, sl2⟩, ho2, hc2, n2, hd2⟩ := id hb
  simp only at hc hd hc2 hd2
  subst hc hd hc2 hd2
  have e : vs.toArray ++ ws.toArray = (vs ++ ws).toArray := by simp
  refine concat_meets (s := ⟨h, g, dr, k, o⟩) ⟨_, ho, rfl⟩ ⟨_, ho2, rfl⟩ noFill_list_add seq_list_add PySem.F.slot_list_add PySem.F.entry_list_add (PySem.F.args_list_add_2 _ _) (list_addW l b vs.toArray ws.toArray n n2 dd dd2 sl sl2 (by simpa using hsz)) ⟨ho, ho2, ?_⟩
  rw [e]
  exact H
theorem rStarL {l : Addr} {vs : List Value} {Qs : List Value → Shared → Prop} (hl : h.IsList l vs.toArray) (hsz : vs.length ≤ sizeLine) (H : ∀ h', Keep h h' → Qs vs ⟨h', g, dr, k, o⟩) :
    StarOf (model prog w) A E (.ref l) Qs ⟨h, g, dr, k, o⟩ := by
  obtain ⟨ob, ho, hc, n, hd⟩ := id hl
  have z : wpAny (model prog w) A (collect (.ref l)) Qs E ⟨h, g, dr, k, o⟩ :=
    wpAny_collect_seq (s := ⟨h, g, dr, k, o⟩) l (.inl rfl) ho hc hd (fun h' hk => H h' hk) (by rw [List.size_toArray]; exact hsz)
  unfold StarOf notIterableAtAll
  exact wpAny_bind (wpAny_specialOf (Heap.IsList.typeIs (s := ⟨h, g, dr, k, o⟩) hl) PySem.F.slot_list_iter.lookup (wpAny_pure ⟨rfl, z⟩))
/-- a call of one of the text's defs with plain arguments -/
theorem rDefs {f : Str} {b i : Nat} {e : Expr} {rest : List Expr} {np pos : Pos} (W : Wd w mg mb h) (hg : (f, .ref b) ∈ globL) (hf : (b, i) ∈ fnL)
    (he : wpAny (model prog w) A (spliced (backTo pos (starEach (e :: rest) (envOf n scope L a cd)))) (fun vs s₁ => Keep h s₁.heap ∧ wpAny (model prog w) A (call (.ref b) vs) Q E s₁) E ⟨h, g, dr, k, o⟩)
    (hk : scope.kind = .function := by rfl) (hx : (envOf n scope L a cd).kindOf f = some .globalImplicit := by rfl)
    (hd : (f == ("__debug__" : Str)) = false := by decide) (hs : starEach (e :: rest) (envOf n scope L a cd) = (false, eval e (envOf n scope L a cd)) :: starEach rest (envOf n scope L a cd) := by rfl)
    (hc : eval (.Call (.Name f np) (e :: rest) [] pos) (envOf n scope L a cd) = (do callWith pos (← eval (.Name f np) (envOf n scope L a cd)) [] (backTo pos (starEach (e :: rest) (envOf n scope L a cd))) (backToKw pos (keywordEach [] (envOf n scope L a cd)))) := by rfl) :
    wpAny (model prog w) A (eval (.Call (.Name f np) (e :: rest) [] pos) (envOf n scope L a cd)) Q E ⟨h, g, dr, k, o⟩ := by
  obtain ⟨ob, pm, c, ho, hdt, _⟩ := W.fn (b, i) hf
  refine Call_ (rGl W hg ?_ hk hx hd) hc
  exact PyProof.Rows.callWith_def hdt (wpAny_mono he (fun v s₁ x => ⟨x.1 _ _ ho, x.2⟩) fun _ _ x => x) hs
/-- f(*e) of one of the text's defs -/
theorem rDefStar {f : Str} {b i : Nat} {e : Expr} {np pos sp : Pos} (W : Wd w mg mb h) (hg : (f, .ref b) ∈ globL) (hf : (b, i) ∈ fnL)
    (he : wpAny (model prog w) A (eval e (envOf n scope L a cd)) (fun v s₁ => StarOf (model prog w) A E v (fun vs s₂ => Keep h s₂.heap ∧ wpAny (model prog w) A (call (.ref b) vs) Q E s₂) s₁) E ⟨h, g, dr, k, o⟩)
    (hk : scope.kind = .function := by rfl) (hx : (envOf n scope L a cd).kindOf f = some .globalImplicit := by rfl)
    (hd : (f == ("__debug__" : Str)) = false := by decide) (hs : starEach [.Starred e sp] (envOf n scope L a cd) = [(true, eval e (envOf n scope L a cd))] := by rfl)
    (hc : eval (.Call (.Name f np) [.Starred e sp] [] pos) (envOf n scope L a cd) = (do callWith pos (← eval (.Name f np) (envOf n scope L a cd)) [] (backTo pos (starEach [.Starred e sp] (envOf n scope L a cd))) (backToKw pos (keywordEach [] (envOf n scope L a cd)))) := by rfl) :
    wpAny (model prog w) A (eval (.Call (.Name f np) [.Starred e sp] [] pos) (envOf n scope L a cd)) Q E ⟨h, g, dr, k, o⟩ := by
  obtain ⟨ob, pm, c, ho, hdt, _⟩ := W.fn (b, i) hf
  refine Call_ (rGl W hg ?_ hk hx hd) hc
  rw [hs]
  refine callWith_function (o := ob) (fd := docDef (nm (stm i)) (pr (stm i)) (bd (stm i)) (sc (stm i)) pm c .none) ?_
  refine ks_lone (wpAny_mono he (fun v s₁ x => ?_) fun _ _ x => x)
  exact wpAny_mono x (fun b s₂ y => ⟨y.1, wpAny_mono y.2 (fun vs s₃ z => ⟨⟨z.1 _ _ ho, hdt⟩, z.2⟩) fun _ _ x => x⟩) fun _ _ x => x
/-- a tuple's place -/
theorem rTup {value slice : Expr} {t : Addr} {l : List Value} {i : Nat} {u : Tok} {x : Value} (ht : IsTup h t l.toArray) (hi : i < l.length) (hz : l.length ≤ 1000) (hx : l[i]? = some x) (H : Q x ⟨h, g, dr, k, o⟩)
    (hs : subscripted slice false (.ref t) (.int i u) = operate [.ref t, .int i u] (getItem (.ref t) (.int i u)) := by with_unfolding_all rfl) :
    wpAny (model prog w) A (subscriptTail value slice (.ref t) (.int i u)) Q E ⟨h, g, dr, k, o⟩ :=
  item_tupleT (s := ⟨h, g, dr, k, o⟩) (j := i) ht (by omega) (by omega) (seqIndex_nat hi) hx H hs
/-- a list's place -/
theorem rItemL {value slice : Expr} {l : Addr} {vs : List Value} {i : Nat} {u : Tok} {x : Value} (hl : h.IsList l vs.toArray) (hz : i < 1000) (hx : vs[i]? = some x) (H : Q x ⟨h, g, dr, k, o⟩)
    (hs : subscripted slice false (.ref l) (.int i u) = operate [.ref l, .int i u] (getItem (.ref l) (.int i u)) := by with_unfolding_all rfl) :
    wpAny (model prog w) A (subscriptTail value slice (.ref l) (.int i u)) Q E ⟨h, g, dr, k, o⟩ :=
  tail_any (Heap.IsList.typeIs (s := ⟨h, g, dr, k, o⟩) hl) list_getitem_lookup (wpAny_getItem_list hl (by omega) (by omega) (by rw [Int.toNat_natCast, List.getElem?_toArray]; exact hx) H) hs
theorem rItemLn {value slice : Expr} {l : Addr} {vs : List Value} {u : Tok} {x : Value} (hl : h.IsList l vs.toArray) (h0 : 0 < vs.length) (hx : vs[vs.length - 1]? = some x) (H : Q x ⟨h, g, dr, k, o⟩)
    (hs : subscripted slice false (.ref l) (.int (-1) u) = operate [.ref l, .int (-1) u] (getItem (.ref l) (.int (-1) u)) := by with_unfolding_all rfl) :
    wpAny (model prog w) A (subscriptTail value slice (.ref l) (.int (-1) u)) Q E ⟨h, g, dr, k, o⟩ :=
  tail_any (Heap.IsList.typeIs (s := ⟨h, g, dr, k, o⟩) hl) list_getitem_lookup (wpAny_getItem_list_neg hl (by decide) (by rw [List.size_toArray]; omega) (by decide) (by rw [List.size_toArray, List.getElem?_toArray, show ((-1 : Int) + (vs.length : Int)).toNat = vs.length - 1 by omega]; exact hx) H) hs
end
theorem intsSnoc {vs : List Value} {ys : List Int} (h : IntsAre vs ys) (y : Int) (t : Tok) : IntsAre (vs ++ [.int y t]) (ys ++ [y]) := h.append (.cons y t .nil)
theorem intsGet {vs : List Value} {ns : List Int} (h : IntsAre vs ns) {i : Nat} {v : Value} (e : vs[i]? = some v) : ∃ n t, v = .int n t ∧ ns[i]? = some n := h.at i v e
theorem prsSnoc {h : Heap} {vs : List Value} {l : List (Str × Str)} (x : Prs h vs l) {b : Addr} {p : Str × Str} {t u : Tok} (hb : IsTup h b #[.str p.1 t, .str p.2 u]) : Prs h (vs ++ [.ref b]) (l ++ [p]) := by
  refine ⟨by simp [x.1], fun i q e => ?_⟩
  by_cases hi : i < l.length
  · rw [List.getElem?_append_left hi] at e
    rw [List.getElem?_append_left (by rw [x.1]; exact hi)]
    exact x.2 i q e
  · rw [List.getElem?_append_right (by omega)] at e
    rw [List.getElem?_append_right (by rw [x.1]; omega), x.1]
    have hlt := (List.getElem?_eq_some_iff.mp e).1
    rw [List.length_singleton] at hlt
    rw [show i - l.length = 0 by omega] at e ⊢
    cases e
    exact ⟨b, t, u, rfl, hb⟩
theorem prsKT {h h' : Heap} {vs : List Value} {l : List (Str × Str)} (x : Prs h vs l) (k : KT h h') : Prs h' vs l :=
  ⟨x.1, fun i p e => let ⟨b, t, u, h1, h2⟩ := x.2 i p e; ⟨b, t, u, h1, k _ _ h2⟩⟩
theorem strsGet {vs : List Value} {xs : List Str} (h : StrsAre vs xs) : ∀ {i : Nat} {x : Str}, xs[i]? = some x → ∃ t, vs[i]? = some (.str x t) := by
  induction h with
  | nil => intro i x e; simp at e
  | cons x t _ ih =>
    intro i y e
    cases i with
    | zero => cases e; exact ⟨t, rfl⟩
    | succ i => rw [List.getElem?_cons_succ] at e ⊢; exact ih e
theorem strsDrop {vs : List Value} {xs : List Str} (h : StrsAre vs xs) : ∀ i, StrsAre (vs.drop i) (xs.drop i) := by
  induction h with
  | nil => intro i; simp; exact .nil
  | cons x t h' ih =>
    intro i
    cases i with
    | zero => exact .cons x t h'
    | succ i => exact ih i
theorem strsLen {vs : List Value} {xs : List Str} (h : StrsAre vs xs) : vs.length = xs.length := by
  induction h with
  | nil => rfl
  | cons x t _ ih => simp [ih]
/-- texts with their tokens -/
theorem strsPairs {vs : List Value} {xs : List Str} (h : StrsAre vs xs) : ∃ l : List (Str × Tok), vs = l.map (fun y => .str y.1 y.2) ∧ l.map (·.1) = xs := by
  induction h with
  | nil => exact ⟨[], rfl, rfl⟩
  | cons x t _ ih => obtain ⟨l, h1, h2⟩ := ih; exact ⟨(x, t) :: l, by simp [h1], by simp [h2]⟩
end
end Mine
namespace Mine
noncomputable section
def lawS1 : Stmt := (bd (stm 27)).headD (.Pass default)
def lawS2 : Stmt := (bd (stm 27)).tail.headD (.Pass default)
def ptN (n : Nat) : Str × Str := partF n (digs n)
def numL (ns : List Int) : List Nat := [14, 2] ++ (ns.take 5).map fun k => (k % 1000000).toNat
theorem numL_lt (ns : List Int) : ∀ n ∈ numL ns, n < 1000000 := by
  intro n h
  rcases List.mem_append.mp h with h | h
  · simp only [List.mem_cons, List.not_mem_nil, or_false] at h; omega
  · obtain ⟨k, _, rfl⟩ := List.mem_map.mp h
    have := Int.emod_lt_of_pos k (b := 1000000) (by decide)
    have := Int.emod_nonneg k (b := 1000000) (by decide)
    omega
theorem numL_len (ns : List Int) : (numL ns).length ≤ 7 := by
  unfold numL
  rw [List.length_append, List.length_map, List.length_take]
  show 2 + _ ≤ 7
  omega
abbrev envL (L : Addr) (cd : Value) : Env := envOf (nm (stm 27)) (sc (stm 27)) L 224 cd
section
variable {A : Around} {h h₀ : Heap} {g : Array GenState} {dr : Drawn} {k : Nat} {o : OsState} {w : World} {L : Addr} {cd : Value} {m : Str → Option Value} {Q : Flow → Shared → Prop} {mg mb : Str → Option Value}
theorem law_parts {a : Addr} {vs : List Value} {ns : List Int} (hA : Rm A 3) (W0 : Wd w mg mb h₀) (F : Fr h₀ L h m) (ha : h₀.IsList a vs.toArray) (hi : IntsAre vs ns) (hlen : ns.length ≤ 1000) (hs : m "script" = some (.ref a))
    (H : ∀ D h' dr' k' vsP, Fr h₀ L h' (fun z => if z = "parts" then some (.ref D) else m z) → h'.IsList D vsP.toArray → Prs h' vsP ((numL ns).map ptN) → Q .next ⟨h', g, dr', k', o⟩) :
    wpAny (model prog w) A (exec lawS1 (envL L cd)) Q No ⟨h, g, dr, k, o⟩ := by
  have W1 := W0.keeps F.keep
  have z : sizeLine = 16777216 := rfl
  have hvl : vs.length = ns.length := hi.length
  refine comp_assign (y := "parts") (h₀ := h₀) (by decide +kernel) ?hsw rfl rfl ?_
  case hsw => kernel_rfl!
  refine wpAny_BinOp ?_
  refine List_ (args_cons (rInt fun t1 _ => args_cons (rInt fun t2 _ => args_nil (rNewList ?_ (by show 2 ≤ sizeLine; decide)))))
  have F1 := Frk F (keep_push h { cls := .type "list", data := .seq [Value.int 14 t1, Value.int 2 t2].toArray })
  have L1 := lst_push h [Value.int 14 t1, Value.int 2 t2]
  generalize hh1 : (h.push { cls := .type "list", data := .seq [Value.int 14 t1, Value.int 2 t2].toArray }) = h1 at F1 L1 ⊢
  refine comp_walk (by decide +kernel) ?_
  refine Subscript_ (rLd F1 hs (wpAny_Slice (wpAny_pure (rInt (kk := 0) (pos := ⟨138, 96, 138, 97⟩) fun t k => wpAny_pure ?_))))
  refine rTailL (lstK ha F1.keep) .none (.int _ _) .none (by decide) (by rw [List.size_toArray]; omega) fun b2 h2 K2 n2 L2 => ?_
  rw [show (5 : Int) = ((5 : Nat) : Int) from rfl, slicePick_upto'] at L2
  replace L2 : h2.IsList b2 (vs.take 5).toArray := L2
  have hi5 : IntsAre (vs.take 5) (ns.take 5) := hi.take 5
  refine wpAny_pyIter_list L2 ?_
  have hb2 : b2 ≠ h2.objs.size := by obtain ⟨ot, hot, _⟩ := L2; exact Nat.ne_of_lt (Heap.lt_size hot)
  have Wk := Walks.list (prog := prog) (w := w) hA.hd h2.objs.size b2 hb2 (vs.take 5).toArray
  have F2 := Frk F1 (K2.trans (keep_push h2 { cls := .type "list_iterator", data := .fields #[.ref b2, .int 0 0] }))
  refine ⟨h2.objs.size, _, _, _, _, _, fun i ys _ => IntsAre ys (((ns.take 5).map fun k => k % 1000000).take i), rfl, Wk, ?_, ⟨⟨_, Heap.get?_push_size _ rfl, rfl, rfl⟩, L2.push _⟩, ?_, .nil, fun _ _ _ _ _ _ _ j => j, fun _ _ _ _ _ j => j, ?_, ?_⟩
  · rw [List.size_toArray, List.length_take]; omega
  · intro b hb
    rw [Heap.size_push]
    simp only [List.mem_cons, List.not_mem_nil, or_false] at hb
    rcases hb with rfl | rfl
    · exact Nat.lt_succ_self _
    · obtain ⟨ot, hot, _⟩ := L2; exact Nat.lt_succ_of_lt (Heap.lt_size hot)
  · rintro C i v ys ⟨p3, g3, d3, k3, o3⟩ m₃ hlt hP hys N hm hk hg ho
    dsimp only at N hk hg ho
    rw [List.getElem?_toArray] at hP
    obtain ⟨x, t, rfl, hx⟩ := intsGet hi5 hP
    have K3 : Keep h2 p3 := fun b o e => hk b o (by rw [List.mem_singleton]; exact Nat.ne_of_lt (Heap.lt_size e)) (Heap.get?_push_of_some _ e)
    have W3 := W0.keeps (Keep.trans F1.keep (K2.trans K3))
    refine wpAny_pure ⟨⟨Keep.refl _, rfl, rfl⟩, ?_⟩
    show wpAny _ _ _ _ _ _
    refine wpAny_BinOp ?_
    refine Call_ (gBl W3 (v := .type "int") (by decide) ?_)
    refine PyProof.Rows.callWith_type1 (args_cons (gLd (env := compEnv _ C _) N hm (args_nil (call_int_int ?_))))
    refine wpAny_BinOp (rInt fun t1 k1 => rInt fun t2 k2 => ?_)
    refine PyProof.Rows.pow_int_small (by decide) (by decide) (by decide) ?_
    refine rMod (by decide) fun t k => ?_
    refine ⟨⟨Keep.refl _, rfl, rfl⟩, ?_⟩
    have e : (((ns.take 5).map fun k => k % 1000000).take (i + 1)) = (((ns.take 5).map fun k => k % 1000000).take i) ++ [x % 1000000] := by
      rw [List.take_succ, List.getElem?_map, hx]; rfl
    show IntsAre _ (((ns.take 5).map fun k => k % 1000000).take (i + 1))
    rw [e]
    have e6 : x.fmod ((10 : Int) ^ (6 : Int).toNat) = x % 1000000 := by
      rw [show ((10 : Int) ^ (6 : Int).toNat) = 1000000 by decide, Int.fmod_eq_emod_of_nonneg _ (by decide)]
    rw [e6]
    exact intsSnoc hys _ _
  intro D3 h3 dr3 k3 ys3 hD3 L3 hJ3 hk3
  have hJ3' : IntsAre ys3 ((ns.take 5).map fun k => k % 1000000) := by
    have e : (((ns.take 5).map fun k => k % 1000000).take (vs.take 5).toArray.size) = (ns.take 5).map fun k => k % 1000000 := by
      rw [List.take_of_length_le]
      rw [List.size_toArray, List.length_map, List.length_take, List.length_take]; omega
    have := hJ3
    rw [e] at this
    exact this
  have K3 : Keep h2 h3 := fun b o e => hk3 b o (by rw [List.mem_singleton]; exact Nat.ne_of_lt (Heap.lt_size e)) (Heap.get?_push_of_some _ e)
  have hys3 : ys3.length ≤ 5 := by rw [hJ3'.length, List.length_map, List.length_take]; omega
  refine rConcat (vs := [Value.int 14 t1, Value.int 2 t2]) (lstK L1 (K2.trans K3)) L3 (by show 2 + _ ≤ _; omega) ?_
  have F3 := Frk F1 (K2.trans K3)
  have hnum : IntsAre ([Value.int 14 t1, Value.int 2 t2] ++ ys3) ((numL ns).map fun (n : Nat) => (n : Int)) := by
    have e : ((numL ns).map fun (n : Nat) => (n : Int)) = [14, 2] ++ (ns.take 5).map fun k => k % 1000000 := by
      unfold numL
      rw [List.map_append, List.map_map]
      refine congrArg ([14, 2] ++ ·) (List.map_congr_left fun x _ => ?_)
      have := Int.emod_nonneg x (b := 1000000) (by decide)
      show ((x % 1000000).toNat : Int) = x % 1000000
      omega
    rw [e]
    exact IntsAre.append (.cons _ _ (.cons _ _ .nil)) hJ3'
  generalize hvs4 : [Value.int 14 t1, Value.int 2 t2] ++ ys3 = vs4 at hnum ⊢
  have hv4 : vs4.length ≤ 7 := by rw [← hvs4, List.length_append]; show 2 + _ ≤ 7; omega
  have L4 := lst_push h3 vs4
  have F4 := Frk F3 (keep_push h3 { cls := .type "list", data := .seq vs4.toArray })
  generalize hh4 : h3.push { cls := .type "list", data := .seq vs4.toArray } = h4 at L4 F4 ⊢
  have hD4 : h3.objs.size ≠ h4.objs.size := by rw [← hh4, Heap.size_push]; exact Nat.ne_of_lt (Nat.lt_succ_self _)
  refine wpAny_pyIter_list L4 ?_
  have Wk4 := Walks.list (prog := prog) (w := w) hA.hd h4.objs.size h3.objs.size hD4 vs4.toArray
  have F5 := Frk F4 (keep_push h4 { cls := .type "list_iterator", data := .fields #[.ref h3.objs.size, .int 0 0] })
  refine ⟨h4.objs.size, _, _, _, _, _, m, fun i ys h => Prs h ys (((numL ns).map ptN).take i), rfl, Wk4, ?_, ⟨⟨_, Heap.get?_push_size _ rfl, rfl, rfl⟩, L4.push _⟩, ?_, ⟨rfl, fun i p e => by simp at e⟩, ?_, fun i ys h h' kt j => prsKT j kt, F5, ?_, ?_, ?_, ?_⟩
  · rw [List.size_toArray]; omega
  · intro b hb
    rw [Heap.size_push]
    simp only [List.mem_cons, List.not_mem_nil, or_false] at hb
    rcases hb with rfl | rfl
    · exact Nat.lt_succ_self _
    · obtain ⟨ot, hot, _⟩ := L4; exact Nat.lt_succ_of_lt (Heap.lt_size hot)
  · intro i j ys h h' st hb hj
    exact prsKT hj (KT.but hb fun b hb items => by rw [List.mem_singleton] at hb; subst hb; exact litr_no st.1 items)
  · intro b hb
    rw [List.mem_singleton] at hb
    subst hb
    exact frNew F4
  · rw [List.mem_singleton]; exact Nat.ne_of_lt (frLt F4)
  · rintro C i v ys ⟨p3, g3, d3, k3, o3⟩ m₃ hlt hP hys N hm hk hg ho
    dsimp only at N hk hg ho hys
    rw [List.getElem?_toArray] at hP
    obtain ⟨x, t, rfl, hx⟩ := intsGet hnum hP
    rw [List.getElem?_map, Option.map_eq_some_iff] at hx
    obtain ⟨nn, hnn, rfl⟩ := hx
    have K3 : Keep h4 p3 := fun b o e => hk b o (by rw [List.mem_singleton]; exact Nat.ne_of_lt (Heap.lt_size e)) (Heap.get?_push_of_some _ e)
    have W3 := W0.keeps (Keep.trans F4.keep K3)
    refine wpAny_pure ⟨⟨Keep.refl _, rfl, rfl⟩, ?_⟩
    show wpAny _ _ _ _ _ _
    refine gDef1 (b := 200) (i := 23) W3 (by decide) (by decide) (gLd (env := compEnv _ C _) N hm ⟨Keep.refl _, rCt (law_part_ct W3 (hA.le (by omega)) nn (numL_lt ns nn (List.mem_of_getElem? hnn)) t) ?_⟩)
    rintro v h₅ d₅ k₅ K5 ⟨a5, ta, tb, rfl, hT⟩
    refine ⟨⟨K5, rfl, rfl⟩, ?_⟩
    show Prs h₅ _ (((numL ns).map ptN).take (i + 1))
    have e : ((numL ns).map ptN).take (i + 1) = ((numL ns).map ptN).take i ++ [ptN nn] := by
      rw [List.take_succ, List.getElem?_map, hnn]; rfl
    rw [e]
    exact prsSnoc (hys.keeps K5) hT
  · intro D h' dr' tk ys hD hl hJ F' hk
    have e : ((numL ns).map ptN).take vs4.toArray.size = (numL ns).map ptN := by
      rw [List.take_of_length_le]
      have := hnum.length
      rw [List.length_map] at this
      rw [List.size_toArray, List.length_map]; omega
    have hJ' : Prs h' ys (((numL ns).map ptN).take vs4.toArray.size) := hJ
    rw [e] at hJ'
    exact H D h' dr' tk ys F' hl hJ'
end
end
end Mine
namespace Mine
noncomputable section
theorem kbKT {L : Addr} {h h' : Heap} {m : Str → Option Value} (kb : Kb L h h') (n : h.Ns L m) : KT h h' :=
  KT.but (wr := [L]) (fun b o hb e => kb b o (by simpa using hb) e) fun b hb items => by rw [List.mem_singleton] at hb; subst hb; exact ns_no n items
theorem kbList {L D : Addr} {h h' : Heap} {m : Str → Option Value} {vs : Array Value} (kb : Kb L h h') (n : h.Ns L m) (l : h.IsList D vs) : h'.IsList D vs := by
  have hne : D ≠ L := by
    rintro rfl
    obtain ⟨o, e, c, k, d⟩ := l
    obtain ⟨o', es, ep, e', d', _⟩ := n
    rw [e] at e'; cases e'; rw [d] at d'; cases d'
  obtain ⟨o, e, r⟩ := l
  exact ⟨o, kb _ _ hne e, r⟩
section
variable {A : Around} {h h₀ : Heap} {g : Array GenState} {dr : Drawn} {k : Nat} {o : OsState} {w : World} {L : Addr} {cd : Value} {m : Str → Option Value} {Q : Flow → Shared → Prop} {mg mb : Str → Option Value}
def rdy (P : List (Str × Str)) : List Str := P.map fun (p : Str × Str) => prepF p.1
theorem law_ready {D : Addr} {vsP : List Value} {P : List (Str × Str)} (hA : Rm A 3) (W0 : Wd w mg mb h₀) (F : Fr h₀ L h m) (hD : h.IsList D vsP.toArray) (hP : Prs h vsP P) (hl : P.length ≤ 1000) (hz : ∀ p ∈ P, p.1.length ≤ 10000) (hs : m "parts" = some (.ref D))
    (H : ∀ D2 h' dr' k' vsR, Fr h₀ L h' (fun z => if z = "ready" then some (.ref D2) else m z) → Kb L h h' → h'.IsList D2 vsR.toArray → StrsAre vsR (rdy P) → Q .next ⟨h', g, dr', k', o⟩) :
    wpAny (model prog w) A (exec lawS2 (envL L cd)) Q No ⟨h, g, dr, k, o⟩ := by
  have W1 := W0.keeps F.keep
  have z : sizeLine = 16777216 := rfl
  have hvl := hP.1
  refine comp_assign (y := "ready") (h₀ := h₀) (by decide +kernel) ?hsw rfl rfl ?_
  case hsw => kernel_rfl!
  refine rLd F hs ?_
  refine wpAny_pyIter_list hD ?_
  have hne : D ≠ h.objs.size := by obtain ⟨ot, hot, _⟩ := hD; exact Nat.ne_of_lt (Heap.lt_size hot)
  have Wk := Walks.list (prog := prog) (w := w) hA.hd h.objs.size D hne vsP.toArray
  have F1 := Frk F (keep_push h { cls := .type "list_iterator", data := .fields #[.ref D, .int 0 0] })
  refine ⟨h.objs.size, _, _, _, _, _, m, fun i ys _ => StrsAre ys ((rdy P).take i), rfl, Wk, ?_, ⟨⟨_, Heap.get?_push_size _ rfl, rfl, rfl⟩, hD.push _⟩, ?_, .nil, fun _ _ _ _ _ _ _ j => j, fun _ _ _ _ _ j => j, F1, ?_, ?_, ?_, ?_⟩
  · rw [List.size_toArray]; omega
  · intro b hb
    rw [Heap.size_push]
    simp only [List.mem_cons, List.not_mem_nil, or_false] at hb
    rcases hb with rfl | rfl
    · exact Nat.lt_succ_self _
    · obtain ⟨ot, hot, _⟩ := hD; exact Nat.lt_succ_of_lt (Heap.lt_size hot)
  · intro b hb
    rw [List.mem_singleton] at hb
    subst hb
    exact frNew F
  · rw [List.mem_singleton]; exact Nat.ne_of_lt (frLt F)
  · rintro C i v ys ⟨p3, g3, d3, k3, o3⟩ m₃ hlt hPv hys N hm hk hg ho
    dsimp only at N hk hg ho hys
    rw [List.getElem?_toArray] at hPv
    have hlt' : i < P.length := by have := hlt; rw [List.size_toArray] at this; omega
    obtain ⟨b, t1, t2, hb, hT⟩ := hP.2 i P[i] (List.getElem?_eq_getElem hlt')
    rw [hPv] at hb
    cases hb
    have K3 : Keep h p3 := fun b o e => hk b o (by rw [List.mem_singleton]; exact Nat.ne_of_lt (Heap.lt_size e)) (Heap.get?_push_of_some _ e)
    have W3 := W0.keeps (Keep.trans F.keep K3)
    refine wpAny_pure ⟨⟨Keep.refl _, rfl, rfl⟩, ?_⟩
    show wpAny _ _ _ _ _ _
    refine gDef1 (b := 205) (i := 24) W3 (by decide) (by decide) ?_
    refine Subscript_ (gLd (env := compEnv _ C _) N hm (rInt fun t k => ?_))
    refine rTup (i := 0) (l := [.str P[i].1 t1, .str P[i].2 t2]) (hT.keeps K3) (show 0 < 2 by decide) (show 2 ≤ 1000 by decide) rfl ⟨Keep.refl _, rCt (law_prepared_ct W3 (hA.le (by omega)) P[i].1 t1 (hz _ (List.getElem_mem hlt'))) ?_⟩
    rintro v h₅ d₅ k₅ K5 ⟨tp, rfl⟩
    refine ⟨⟨K5, rfl, rfl⟩, ?_⟩
    show StrsAre _ ((rdy P).take (i + 1))
    have e : (rdy P).take (i + 1) = (rdy P).take i ++ [prepF P[i].1] := by
      unfold rdy; rw [List.take_succ, List.getElem?_map, List.getElem?_eq_getElem hlt']; rfl
    rw [e]
    exact strsSnoc hys _ _
  · intro D2 h' dr' tk ys hD2 hl2 hJ F' hk
    have e : (rdy P).take vsP.toArray.size = rdy P := by
      rw [List.take_of_length_le]
      unfold rdy; rw [List.size_toArray, List.length_map]; omega
    have hJ' : StrsAre ys ((rdy P).take vsP.toArray.size) := hJ
    rw [e] at hJ'
    refine H D2 h' dr' tk ys F' (fun b o hb e => hk b o hb ?_ (Heap.get?_push_of_some _ e)) hl2 hJ'
    rw [List.mem_singleton]; exact Nat.ne_of_lt (Heap.lt_size e)
end
end
end Mine
namespace Mine
noncomputable section
theorem joinE_cps : ∀ l : List Str, (Txt.join "" l).cps.toList = l.flatMap fun x => x.cps.toList := by
  intro l
  unfold Txt.join
  rw [StrLaws.glued_eq_join]
  induction l with
  | nil => rfl
  | cons a r ih =>
    cases r with
    | nil => simp [Str.join]
    | cons b r =>
      show (a ++ "" ++ Str.join "" (b :: r)).cps.toList = _
      rw [Str.cps_append, Str.cps_append, Array.toList_append, Array.toList_append, ih]
      show a.cps.toList ++ [] ++ _ = _
      simp
theorem joinE_len (l : List Str) : (Txt.join "" l).length = (l.map (·.length)).sum := by
  have h : (Txt.join "" l).length = (Txt.join "" l).cps.toList.length := by rw [Array.length_toList]; rfl
  rw [h, joinE_cps, List.length_flatMap]
  refine congrArg List.sum (List.map_congr_left fun x _ => ?_)
  rw [Array.length_toList]; rfl
theorem prepF_len (x : Str) : (prepF x).length ≤ 8 * x.length := by
  unfold prepF
  rw [joinE_len]
  have := (prepL_len x.cps.toList).1
  rw [Array.length_toList] at this
  exact this
def fsts (P : List (Str × Str)) : List Str := P.map fun (p : Str × Str) => p.1
def prevI (N i : Nat) : Nat := if i = 0 then N - 1 else i - 1
def lawLoop : List Stmt := match (bd (stm 27)).tail.tail with
  | .For _ _ b _ _ :: _ => b
  | _ => []
/-- sizes -/
def Small (P : List (Str × Str)) : Prop := P.length ≤ 7 ∧ ∀ p ∈ P, p.1.length ≤ 10 ∧ p.2.length ≤ 40
theorem Small.drop {P : List (Str × Str)} (h : Small P) (i : Nat) : Small (P.drop i) := ⟨by rw [List.length_drop]; have := h.1; omega, fun p hp => h.2 p (List.mem_of_mem_drop hp)⟩
theorem sum_le {α : Type} (f : α → Nat) (B : Nat) : ∀ (l : List α), (∀ x ∈ l, f x ≤ B) → (l.map f).sum ≤ l.length * B
  | [], _ => Nat.zero_le _
  | a :: r, h => by
    have h1 := h a (List.mem_cons_self ..)
    have h2 := sum_le f B r fun x hx => h x (List.mem_cons_of_mem _ hx)
    rw [List.map_cons, List.sum_cons, List.length_cons, Nat.succ_mul]; omega
theorem Small.sums {P : List (Str × Str)} (h : Small P) : sum1 P ≤ 77 ∧ sum2 P ≤ 287 := by
  have a := sum_le (fun p : Str × Str => p.1.length + 1) 11 P fun p hp => by have := (h.2 p hp).1; omega
  have b := sum_le (fun p : Str × Str => p.2.length + 1) 41 P fun p hp => by have := (h.2 p hp).2; omega
  have := h.1
  constructor
  · show (P.map fun p => p.1.length + 1).sum ≤ 77
    have : P.length * 11 ≤ 7 * 11 := Nat.mul_le_mul_right _ h.1
    omega
  · show (P.map fun p => p.2.length + 1).sum ≤ 287
    have : P.length * 41 ≤ 7 * 41 := Nat.mul_le_mul_right _ h.1
    omega
section
variable {A : Around} {h h₀ : Heap} {g : Array GenState} {dr : Drawn} {k : Nat} {o : OsState} {w : World} {L : Addr} {cd : Value} {m : Str → Option Value} {mg mb : Str → Option Value}
/-- [part[j] for part in row], its texts -/
theorem comp_fst {E : Value → Shared → Prop} {Q : Value → Shared → Prop} {D : Addr} {vsP : List Value} {P : List (Str × Str)} {x rowN : Str} {px pos p0 p1 p2 pr : Pos} {kk : Nat} {scope : Scope} {m : Str → Option Value}
    (hA : A.handled = none) (F : Fr h₀ L h m) (hD : h.IsList D vsP.toArray) (hP : Prs h vsP P) (hl : P.length ≤ 1000) (hs : m rowN = some (.ref D))
    (hsc : (scope.names.all (fun y => decide (y.2 ≠ .free) && decide (y.2 ≠ .cell) && (decide (y.2 ≠ .local) || decide (scope.names.lookup y.1 = some .local))) && decide (scope.kind = .function) && decide (scope.names.lookup x = some .local)) = true)
    (hx : (x == ("__debug__" : Str)) = false) (hr : (rowN == ("__debug__" : Str)) = false) (hlr : (envL L cd).kindOf rowN = some .local)
    (H : ∀ D2 h' dr' k' vsR, Keep h h' → h'.IsList D2 vsR.toArray → StrsAre vsR (fsts P) → Q (.ref D2) ⟨h', g, dr', k', o⟩) :
    wpAny (model prog w) A (eval (.ListComp (.Subscript (.Name x p0) (.Constant (.int 0) kk p1) p2) [⟨.Name x px, .Name rowN pr, [], 0⟩] scope pos) (envL L cd)) Q E ⟨h, g, dr, k, o⟩ := by
  have z : sizeLine = 16777216 := rfl
  have hvl := hP.1
  have hsc' := hsc
  simp only [Bool.and_eq_true, decide_eq_true_eq] at hsc'
  refine comp_walk hsc ?_
  refine rLd F hs ?_ rfl hlr hr
  refine wpAny_pyIter_list hD ?_
  have hne : D ≠ h.objs.size := by obtain ⟨ot, hot, _⟩ := hD; exact Nat.ne_of_lt (Heap.lt_size hot)
  have Wk := Walks.list (prog := prog) (w := w) hA h.objs.size D hne vsP.toArray
  refine ⟨h.objs.size, _, _, _, _, _, fun i ys _ => StrsAre ys ((fsts P).take i), rfl, Wk, ?_, ⟨⟨_, Heap.get?_push_size _ rfl, rfl, rfl⟩, hD.push _⟩, ?_, .nil, fun _ _ _ _ _ _ _ j => j, fun _ _ _ _ _ j => j, ?_, ?_⟩
  · rw [List.size_toArray]; omega
  · intro b hb
    rw [Heap.size_push]
    simp only [List.mem_cons, List.not_mem_nil, or_false] at hb
    rcases hb with rfl | rfl
    · exact Nat.lt_succ_self _
    · obtain ⟨ot, hot, _⟩ := hD; exact Nat.lt_succ_of_lt (Heap.lt_size hot)
  · rintro C i v ys ⟨p3, g3, d3, k3, o3⟩ m₃ hlt hPv hys N hm hk hg ho
    dsimp only at N hk hg ho hys
    rw [List.getElem?_toArray] at hPv
    have hlt' : i < P.length := by have := hlt; rw [List.size_toArray] at this; omega
    obtain ⟨b, t1, t2, hb, hT⟩ := hP.2 i P[i] (List.getElem?_eq_getElem hlt')
    rw [hPv] at hb
    cases hb
    have K3 : Keep h p3 := fun b o e => hk b o (by rw [List.mem_singleton]; exact Nat.ne_of_lt (Heap.lt_size e)) (Heap.get?_push_of_some _ e)
    refine wpAny_pure ⟨⟨Keep.refl _, rfl, rfl⟩, ?_⟩
    show wpAny _ _ _ _ _ _
    refine Subscript_ (gLd (env := compEnv scope C _) N hm (rInt (kk := kk) (pos := p1) fun t k => ?_) hsc'.1.2 hsc'.2 hx)
    refine rTup (i := 0) (l := [.str P[i].1 t1, .str P[i].2 t2]) (hT.keeps K3) (show 0 < 2 by decide) (show 2 ≤ 1000 by decide) rfl ?_
    refine ⟨⟨Keep.refl _, rfl, rfl⟩, ?_⟩
    show StrsAre _ ((fsts P).take (i + 1))
    have e : (fsts P).take (i + 1) = (fsts P).take i ++ [P[i].1] := by
      unfold fsts; rw [List.take_succ, List.getElem?_map, List.getElem?_eq_getElem hlt']; rfl
    rw [e]
    exact strsSnoc hys _ _
  · intro D2 h' dr' tk ys hD2 hl2 hJ hk
    have e : (fsts P).take vsP.toArray.size = fsts P := by
      rw [List.take_of_length_le]
      unfold fsts; rw [List.size_toArray, List.length_map]; omega
    have hJ' : StrsAre ys ((fsts P).take vsP.toArray.size) := hJ
    rw [e] at hJ'
    refine H D2 h' dr' tk ys (fun b o e => hk b o ?_ (Heap.get?_push_of_some _ e)) hl2 hJ'
    rw [List.mem_singleton]; exact Nat.ne_of_lt (Heap.lt_size e)
end
end
end Mine
namespace Mine
noncomputable section
def dups (P : List (Str × Str)) : List (Str × Str) := P.map fun (p : Str × Str) => (p.2, p.2)
section
variable {A : Around} {h h₀ : Heap} {g : Array GenState} {dr : Drawn} {k : Nat} {o : OsState} {w : World} {L : Addr} {cd : Value} {m : Str → Option Value} {mg mb : Str → Option Value}
theorem comp_dup {E : Value → Shared → Prop} {Q : Value → Shared → Prop} {D : Addr} {vsP : List Value} {P : List (Str × Str)} {x rowN : Str} {px pos p0 p1 p2 p0' p1' p2' pt pr : Pos} {kk kk' kt : Nat} {scope : Scope} {m : Str → Option Value}
    (hA : A.handled = none) (F : Fr h₀ L h m) (hD : h.IsList D vsP.toArray) (hP : Prs h vsP P) (hl : P.length ≤ 1000) (hs : m rowN = some (.ref D))
    (hsc : (scope.names.all (fun y => decide (y.2 ≠ .free) && decide (y.2 ≠ .cell) && (decide (y.2 ≠ .local) || decide (scope.names.lookup y.1 = some .local))) && decide (scope.kind = .function) && decide (scope.names.lookup x = some .local)) = true)
    (hx : (x == ("__debug__" : Str)) = false) (hr : (rowN == ("__debug__" : Str)) = false) (hlr : (envL L cd).kindOf rowN = some .local)
    (H : ∀ D2 h' dr' k' vsR, Keep h h' → h'.IsList D2 vsR.toArray → Prs h' vsR (dups P) → Q (.ref D2) ⟨h', g, dr', k', o⟩) :
    wpAny (model prog w) A (eval (.ListComp (.Tuple [.Subscript (.Name x p0) (.Constant (.int 1) kk p1) p2, .Subscript (.Name x p0') (.Constant (.int 1) kk' p1') p2'] kt pt) [⟨.Name x px, .Name rowN pr, [], 0⟩] scope pos) (envL L cd)) Q E ⟨h, g, dr, k, o⟩ := by
  have z : sizeLine = 16777216 := rfl
  have hvl := hP.1
  have hsc' := hsc
  simp only [Bool.and_eq_true, decide_eq_true_eq] at hsc'
  refine comp_walk hsc ?_
  refine rLd F hs ?_ rfl hlr hr
  refine wpAny_pyIter_list hD ?_
  have hne : D ≠ h.objs.size := by obtain ⟨ot, hot, _⟩ := hD; exact Nat.ne_of_lt (Heap.lt_size hot)
  have Wk := Walks.list (prog := prog) (w := w) hA h.objs.size D hne vsP.toArray
  refine ⟨h.objs.size, _, _, _, _, _, fun i ys h => Prs h ys ((dups P).take i), rfl, Wk, ?_, ⟨⟨_, Heap.get?_push_size _ rfl, rfl, rfl⟩, hD.push _⟩, ?_, ⟨rfl, fun i p e => by simp at e⟩, ?_, fun i ys h h' kt j => prsKT j kt, ?_, ?_⟩
  · rw [List.size_toArray]; omega
  · intro b hb
    rw [Heap.size_push]
    simp only [List.mem_cons, List.not_mem_nil, or_false] at hb
    rcases hb with rfl | rfl
    · exact Nat.lt_succ_self _
    · obtain ⟨ot, hot, _⟩ := hD; exact Nat.lt_succ_of_lt (Heap.lt_size hot)
  · intro i j ys h h' st hb hj
    exact prsKT hj (KT.but hb fun b hb items => by rw [List.mem_singleton] at hb; subst hb; exact litr_no st.1 items)
  · rintro C i v ys ⟨p3, g3, d3, k3, o3⟩ m₃ hlt hPv hys N hm hk hg ho
    dsimp only at N hk hg ho hys
    rw [List.getElem?_toArray] at hPv
    have hlt' : i < P.length := by have := hlt; rw [List.size_toArray] at this; omega
    obtain ⟨b, t1, t2, hb, hT⟩ := hP.2 i P[i] (List.getElem?_eq_getElem hlt')
    rw [hPv] at hb
    cases hb
    have K3 : Keep h p3 := fun b o e => hk b o (by rw [List.mem_singleton]; exact Nat.ne_of_lt (Heap.lt_size e)) (Heap.get?_push_of_some _ e)
    refine wpAny_pure ⟨⟨Keep.refl _, rfl, rfl⟩, ?_⟩
    show wpAny _ _ _ _ _ _
    refine Tuple_ (args_cons (Subscript_ (gLd (env := compEnv scope C _) N hm (rInt (kk := kk) (pos := p1) fun t k => ?_) hsc'.1.2 hsc'.2 hx)))
    refine rTup (i := 1) (l := [.str P[i].1 t1, .str P[i].2 t2]) (hT.keeps K3) (show 1 < 2 by decide) (show 2 ≤ 1000 by decide) rfl ?_
    refine args_cons (Subscript_ (gLd (env := compEnv scope C _) N hm (rInt (kk := kk') (pos := p1') fun t k => ?_) hsc'.1.2 hsc'.2 hx))
    refine rTup (i := 1) (l := [.str P[i].1 t1, .str P[i].2 t2]) (hT.keeps K3) (show 1 < 2 by decide) (show 2 ≤ 1000 by decide) rfl ?_
    refine args_nil (rNewTuple ?_ (by show 2 ≤ sizeLine; decide))
    refine ⟨⟨keep_push _ _, rfl, rfl⟩, ?_⟩
    show Prs _ _ ((dups P).take (i + 1))
    have e : (dups P).take (i + 1) = (dups P).take i ++ [(P[i].2, P[i].2)] := by
      unfold dups; rw [List.take_succ, List.getElem?_map, List.getElem?_eq_getElem hlt']; rfl
    rw [e]
    exact prsSnoc (hys.keeps (keep_push _ _)) (t := t2) (u := t2) (tup_push _ _)
  · intro D2 h' dr' tk ys hD2 hl2 hJ hk
    have e : (dups P).take vsP.toArray.size = dups P := by
      rw [List.take_of_length_le]
      unfold dups; rw [List.size_toArray, List.length_map]; omega
    have hJ' : Prs h' ys ((dups P).take vsP.toArray.size) := hJ
    rw [e] at hJ'
    refine H D2 h' dr' tk ys (fun b o e => hk b o ?_ (Heap.get?_push_of_some _ e)) hl2 hJ'
    rw [List.mem_singleton]; exact Nat.ne_of_lt (Heap.lt_size e)
/-- join's contract for a list of values -/
theorem join_vals {s : Shared} (W : Wd w mg mb s.heap) (hA : Rm A 1) {vs : List Value} {x : Str} {xs : List Str} (hv : StrsAre vs (x :: xs)) (hl : xs.length ≤ 1000) (hb : x.length + sumLen xs ≤ 1000000) :
    Ct w A (.call (.ref 115) ⟨vs, []⟩) s (fun v _ => ∃ t, v = .str (joinF x xs) t) := by
  cases hv with
  | cons x t h =>
    obtain ⟨l, rfl, rfl⟩ := strsPairs h
    exact join_ct W hA x t l (by rw [List.length_map] at hl; exact hl) hb
end
end
end Mine
namespace Mine
noncomputable section
section
variable {A : Around} {h h₀ : Heap} {g : Array GenState} {dr : Drawn} {k : Nat} {o : OsState} {w : World} {L : Addr} {cd : Value} {m : Str → Option Value} {mg mb : Str → Option Value}
theorem rSub {E : Value → Shared → Prop} {Q : Value → Shared → Prop} {a b : Int} {t u : Tok} (H : ∀ t k', Q (.int (a - b) t) ⟨h, g, dr, k', o⟩) : wpAny (model prog w) A (binaryOp .Sub (.int a t) (.int b u)) Q E ⟨h, g, dr, k, o⟩ := PyProof.Rows.sub_int (H _ _)
theorem rPrev {E : Value → Shared → Prop} {Q : Value → Shared → Prop} {value slice : Expr} {l : Addr} {vs : List Value} {i : Nat} {u : Tok} {x : Value} (hl : h.IsList l vs.toArray) (hz : i < 1000) (h0 : 0 < vs.length) (hx : vs[prevI vs.length i]? = some x) (H : Q x ⟨h, g, dr, k, o⟩)
    (hs : ∀ j : Int, subscripted slice false (.ref l) (.int j u) = operate [.ref l, .int j u] (getItem (.ref l) (.int j u)) := by intro j; with_unfolding_all rfl) :
    wpAny (model prog w) A (subscriptTail value slice (.ref l) (.int ((i : Int) - 1) u)) Q E ⟨h, g, dr, k, o⟩ := by
  by_cases hi : i = 0
  · subst hi
    exact rItemLn hl h0 (by rw [show vs.length - 1 = prevI vs.length 0 from rfl]; exact hx) H (hs _)
  · obtain ⟨j, rfl⟩ : ∃ j, i = j + 1 := ⟨i - 1, by omega⟩
    have e : ((j + 1 : Nat) : Int) - 1 = (j : Int) := by omega
    rw [e]
    exact rItemL hl (by omega) (by have : prevI vs.length (j + 1) = j := by unfold prevI; rw [if_neg (by omega)]; rfl
                                   rw [this] at hx; exact hx) H (hs _)
theorem rdy_fst (P : List (Str × Str)) : rdy P = (fsts P).map prepF := by unfold rdy fsts; rw [List.map_map]; rfl
theorem law_turn {Q : Flow → Shared → Prop} {D D2 : Addr} {vsP vsR : List Value} {P : List (Str × Str)} {i : Nat} {p q : Str × Str} {r : List (Str × Str)} {tp : Tok} (hA : Rm A 3) (W0 : Wd w mg mb h₀) (F : Fr h₀ L h m) (hD : h.IsList D vsP.toArray) (hP : Prs h vsP P) (hD2 : h.IsList D2 vsR.toArray) (hR : StrsAre vsR (rdy P))
    (hS : Small P) (h1 : m "parts" = some (.ref D)) (h2 : m "ready" = some (.ref D2)) (h3 : m "place" = some (.int (i : Int) tp)) (hd : P.drop i = p :: r) (hq : P[prevI P.length i]? = some q)
    (e1 : prepF (joinF p.1 (fsts r)) = (hungF (p :: r)).2) (e2 : joinF (prepF p.1) (rdy r) = (hungF (dups (p :: r))).2) (e3 : (prepF (joinF q.1 [p.1]) == joinF (prepF q.1) [prepF p.1]) = alikeF q p)
    (H : ∀ h' dr' k' m', Fr h₀ L h' m' → Kb L h h' → m' "parts" = some (.ref D) → m' "ready" = some (.ref D2) → Q .next ⟨h', g, dr', k', o⟩) :
    wpAny (model prog w) A (execs lawLoop (envL L cd)) Q No ⟨h, g, dr, k, o⟩ := by
  have z : sizeLine = 16777216 := rfl
  have hlt : i < P.length := by
    have := congrArg List.length hd
    rw [List.length_drop, List.length_cons] at this; omega
  have hSl := hS.1
  have hSd : Small (p :: r) := by rw [← hd]; exact hS.drop i
  have hpi : P[i]? = some p := by
    have : (P.drop i)[0]? = some p := by rw [hd]; rfl
    rw [List.getElem?_drop] at this; exact this
  have sp := hSd.2 p (List.mem_cons_self ..)
  have sq := hS.2 q (List.mem_of_getElem? hq)
  have hrl : r.length ≤ 6 := by have := hSd.1; rw [List.length_cons] at this; omega
  have hvl := hP.1
  refine wpAny_execs_cons (wpAny_Assign_Name (Subscript_ (rLd F h1 (wpAny_Slice (rLd F h3 (wpAny_pure (wpAny_pure ?_)))))))
  refine rTailL hD (.int _ _) .none .none (by decide) (by rw [List.size_toArray]; omega) fun b1 a1 K1 n1 L1 => ?_
  rw [slicePick_from'] at L1
  replace L1 : a1.IsList b1 (vsP.drop i).toArray := L1
  have P1 : Prs a1 (vsP.drop i) (p :: r) := by rw [← hd]; exact (hP.keeps K1).drop i
  refine rSt (Frk F K1) fun a2 k2 F2 B2 => ?_
  have kb2 : Kb L a1 a2 := (Kb.refl L a1).same B2
  have n1' := (Frk F K1).ns
  have L2 : a2.IsList b1 (vsP.drop i).toArray := kbList kb2 n1' L1
  have P2 : Prs a2 (vsP.drop i) (p :: r) := prsKT P1 (kbKT kb2 n1')
  have kbh : Kb L h a2 := ((Kb.refl L h).keep K1).trans kb2
  have PP2 : Prs a2 vsP P := prsKT hP (kbKT kbh F.ns)
  have D12 : a2.IsList D vsP.toArray := kbList kbh F.ns hD
  have D22 : a2.IsList D2 vsR.toArray := kbList kbh F.ns hD2
  have W2 := W0.keeps F2.keep
  have R1 : Rm A 1 := hA.le (by omega)
  have sS := hSd.sums
  have hfs : sumLen (fsts r) ≤ 66 := by
    have hb := sum_le (fun y : Str => y.length + 1) 11 (fsts r) fun y hy => by
      obtain ⟨a, ha, rfl⟩ := List.mem_map.mp hy
      have := (hSd.2 a (List.mem_cons_of_mem _ ha)).1
      omega
    have hm : (fsts r).length * 11 ≤ 6 * 11 := Nat.mul_le_mul_right _ (by unfold fsts; rw [List.length_map]; exact hrl)
    have : sumLen (fsts r) = ((fsts r).map fun y : Str => y.length + 1).sum := rfl
    omega
  have hrs : sumLen (rdy r) ≤ 486 := by
    have hb := sum_le (fun y : Str => y.length + 1) 81 (rdy r) fun y hy => by
      obtain ⟨a, ha, rfl⟩ := List.mem_map.mp hy
      have h1 := (hSd.2 a (List.mem_cons_of_mem _ ha)).1
      have h2 := prepF_len a.1
      show (prepF a.1).length + 1 ≤ 81
      omega
    have hm : (rdy r).length * 81 ≤ 6 * 81 := Nat.mul_le_mul_right _ (by unfold rdy; rw [List.length_map]; exact hrl)
    have : sumLen (rdy r) = ((rdy r).map fun y : Str => y.length + 1).sum := rfl
    omega
  have hpp := prepF_len p.1
  have hpq := prepF_len q.1
  refine wpAny_execs_cons (wpAny_If (wpAny_isTrue_Compare1 (rDefs (b := 205) (i := 24) W2 (by decide) (by decide) (args_cons ?_))))
  refine rDefStar (b := 115) (i := 14) W2 (by decide) (by decide) ?_
  refine comp_fst hA.hd F2 L2 P2 (by rw [List.length_cons]; omega) rfl (by decide +kernel) (by decide) (by decide) rfl ?_
  intro D3 a3 d3 k3 vs3 K3 L3 S3
  refine rStarL L3 (by rw [strsLen S3]; unfold fsts; rw [List.length_map, List.length_cons]; omega) fun a4 K4 => ⟨K3.trans K4, rCt (join_vals (W2.keeps (K3.trans K4)) R1 (x := p.1) (xs := fsts r) S3 ?_ (by omega)) ?_⟩
  · unfold fsts; rw [List.length_map]; omega
  rintro v a5 d5 k5 K5 ⟨t5, rfl⟩
  have W5 := W2.keeps (K3.trans (K4.trans K5))
  have hj1 := joinF_le (fsts r) p.1
  refine args_nil ⟨K3.trans (K4.trans K5), rCt (law_prepared_ct W5 R1 _ t5 (by omega)) ?_⟩
  rintro v a6 d6 k6 K6 ⟨t6, rfl⟩
  have K26 := K3.trans (K4.trans (K5.trans K6))
  have F6 := Frk F2 K26
  have W6 := W2.keeps K26
  refine rDef1 (b := 212) (i := 25) W6 (by decide) (by decide) (rLd F6 rfl ⟨Keep.refl _, rCt (hung_ct W6 (hA.le (by omega)) (lstK L2 K26) (P2.keeps K26) (by simp) (by rw [List.length_cons]; omega) (by omega) (by omega)) ?_⟩)
  rintro v a7 d7 k7 K7 ⟨t7, rfl⟩
  rw [e1]
  refine PyProof.Rows.ne_str (wpAny_truthy_bool ?_)
  refine ite_f (by simp) ?_
  refine wpAny_execs_nil ?_
  have K27 := K26.trans K7
  have F7 := Frk F2 K27
  have W7 := W2.keeps K27
  have hrd : (rdy P).drop i = prepF p.1 :: rdy r := by
    have : (rdy P).drop i = rdy (P.drop i) := by unfold rdy; rw [List.map_drop]
    rw [this, hd]; rfl
  have SR := strsDrop hR i
  rw [hrd] at SR
  have hRl : vsR.length ≤ 7 := by rw [strsLen hR]; unfold rdy; rw [List.length_map]; omega
  refine wpAny_execs_cons (wpAny_If (wpAny_isTrue_Compare1 (rDefStar (b := 115) (i := 14) W7 (by decide) (by decide) ?_)))
  refine Subscript_ (rLd F7 h2 (wpAny_Slice (rLd F7 h3 (wpAny_pure (wpAny_pure ?_)))))
  refine rTailL (lstK D22 K27) (.int _ _) .none .none (by decide) (by rw [List.size_toArray]; omega) fun b8 a8 K8 n8 L8 => ?_
  rw [slicePick_from'] at L8
  replace L8 : a8.IsList b8 (vsR.drop i).toArray := L8
  have W8 := W7.keeps K8
  refine rStarL L8 (by rw [List.length_drop]; omega) fun a9 K9 => ⟨K8.trans K9, rCt (join_vals (W8.keeps K9) R1 SR ?_ (by omega)) ?_⟩
  · unfold rdy; rw [List.length_map]; omega
  rintro v b0 d10 k10 K10 ⟨t10, rfl⟩
  have K210 := K27.trans (K8.trans (K9.trans K10))
  have F10 := Frk F2 K210
  have W10 := W2.keeps K210
  refine rDefs (b := 212) (i := 25) W10 (by decide) (by decide) (args_cons ?_)
  refine comp_dup hA.hd F10 (lstK L2 K210) (P2.keeps K210) (by rw [List.length_cons]; omega) rfl (by decide +kernel) (by decide) (by decide) rfl ?_
  intro D4 b1' d11 k11 vs4 K11 L11 P11
  have W11 := W10.keeps K11
  have sD : sum1 (dups (p :: r)) ≤ 1000000 ∧ sum2 (dups (p :: r)) ≤ 1000000 ∧ (dups (p :: r)).length ≤ 7 := by
    have e1 : sum1 (dups (p :: r)) = sum2 (p :: r) := by unfold sum1 sum2 dups; rw [List.map_map]; rfl
    have e2 : sum2 (dups (p :: r)) = sum2 (p :: r) := by unfold sum2 dups; rw [List.map_map]; rfl
    have e3 : (dups (p :: r)).length = r.length + 1 := by unfold dups; rw [List.length_map]; rfl
    omega
  refine args_nil ⟨K11, rCt (hung_ct W11 (hA.le (by omega)) L11 P11 (by simp [dups]) (by omega) sD.1 sD.2.1) ?_⟩
  rintro v a12 d12 k12 K12 ⟨t12, rfl⟩
  rw [e2]
  refine PyProof.Rows.ne_str (wpAny_truthy_bool ?_)
  refine ite_f (by simp) ?_
  refine wpAny_execs_nil ?_
  have K212 := K210.trans (K11.trans K12)
  have F12 := Frk F2 K212
  have W12 := W2.keeps K212
  obtain ⟨bq, tq1, tq2, hbq, hTq⟩ := PP2.2 _ q hq
  obtain ⟨bp, tp1, tp2, hbp, hTp⟩ := PP2.2 _ p hpi
  rw [← hvl] at hbq
  have hv0 : 0 < vsP.length := by omega
  refine wpAny_execs_cons (wpAny_Assign_Name ?_)
  refine rDefs (b := 205) (i := 24) W12 (by decide) (by decide) (args_cons ?_)
  refine rDefs (b := 115) (i := 14) W12 (by decide) (by decide) ?_
  refine args_cons (Subscript_ (Subscript_ (rLd F12 h1 (wpAny_BinOp (rLd F12 h3 (rInt fun _ _ => rSub fun t k => ?_))))))
  refine rPrev (lstK D12 K212) (by omega) hv0 hbq ?_
  refine rInt fun t k => rTup (i := 0) (l := [.str q.1 tq1, .str q.2 tq2]) (hTq.keeps K212) (show 0 < 2 by decide) (show 2 ≤ 1000 by decide) rfl ?_
  refine args_cons (Subscript_ (Subscript_ (rLd F12 h1 (rLd F12 h3 ?_))))
  refine rItemL (lstK D12 K212) (by omega) hbp ?_
  refine rInt fun t k => rTup (i := 0) (l := [.str p.1 tp1, .str p.2 tp2]) (hTp.keeps K212) (show 0 < 2 by decide) (show 2 ≤ 1000 by decide) rfl ?_
  have hsl : sumLen [p.1] = p.1.length + 1 := by simp [sumLen]
  refine args_nil ⟨Keep.refl _, rCt (join_ct W12 R1 q.1 tq1 [(p.1, tp1)] (show 1 ≤ 1000 by decide) (show q.1.length + sumLen [p.1] ≤ 1000000 by omega)) ?_⟩
  rintro v a13 d13 k13 K13 ⟨t13, rfl⟩
  have hj2 := joinF_le [p.1] q.1
  refine args_nil ⟨K13, rCt (law_prepared_ct (W12.keeps K13) R1 _ t13 (show (joinF q.1 [p.1]).length ≤ 10000 by omega)) ?_⟩
  rintro v a14 d14 k14 K14 ⟨t14, rfl⟩
  have K214 := K212.trans (K13.trans K14)
  refine rSt (Frk F2 K214) fun a15 k15 F15 B15 => ?_
  have kb15 : Kb L a2 a15 := ((Kb.refl L a2).keep K214).same B15
  have D15 : a15.IsList D vsP.toArray := kbList kb15 F2.ns D12
  have R15 : a15.IsList D2 vsR.toArray := kbList kb15 F2.ns D22
  have PP15 : Prs a15 vsP P := prsKT PP2 (kbKT kb15 F2.ns)
  have W15 := W0.keeps F15.keep
  have Tq15 : IsTup a15 bq #[.str q.1 tq1, .str q.2 tq2] := kbKT kb15 F2.ns _ _ hTq
  have Tp15 : IsTup a15 bp #[.str p.1 tp1, .str p.2 tp2] := kbKT kb15 F2.ns _ _ hTp
  have hqr : (rdy P)[prevI vsR.length i]? = some (prepF q.1) := by
    have : vsR.length = P.length := by rw [strsLen hR]; unfold rdy; rw [List.length_map]
    rw [this]; unfold rdy; rw [List.getElem?_map, hq]; rfl
  have hpr : (rdy P)[i]? = some (prepF p.1) := by unfold rdy; rw [List.getElem?_map, hpi]; rfl
  obtain ⟨uq, huq⟩ := strsGet hR hqr
  obtain ⟨up, hup⟩ := strsGet hR hpr
  refine wpAny_execs_cons (wpAny_If (wpAny_isTrue_Compare1 (wpAny_Compare1 (rLd F15 rfl ?_))))
  refine rDefs (b := 115) (i := 14) W15 (by decide) (by decide) ?_
  refine args_cons (Subscript_ (rLd F15 h2 (wpAny_BinOp (rLd F15 h3 (rInt fun _ _ => rSub fun t k => ?_)))))
  refine rPrev R15 (by omega) (by rw [strsLen hR]; unfold rdy; rw [List.length_map]; omega) huq ?_
  refine args_cons (Subscript_ (rLd F15 h2 (rLd F15 h3 ?_)))
  refine rItemL R15 (by omega) hup ?_
  have hsl2 : sumLen [prepF p.1] = (prepF p.1).length + 1 := by simp [sumLen]
  refine args_nil ⟨Keep.refl _, rCt (join_ct W15 R1 (prepF q.1) uq [(prepF p.1, up)] (show 1 ≤ 1000 by decide) (show (prepF q.1).length + sumLen [prepF p.1] ≤ 1000000 by omega)) ?_⟩
  rintro v a16 d16 k16 K16 ⟨t16, rfl⟩
  refine PyProof.Rows.eq_str ?_
  have F16 := Frk F15 K16
  have W16 := W15.keeps K16
  refine rDefs (b := 219) (i := 26) W16 (by decide) (by decide) ?_
  refine args_cons (Subscript_ (rLd F16 h1 (wpAny_BinOp (rLd F16 h3 (rInt fun _ _ => rSub fun t k => ?_)))))
  refine rPrev (lstK D15 K16) (by omega) hv0 hbq ?_
  refine args_cons (Subscript_ (rLd F16 h1 (rLd F16 h3 ?_)))
  refine rItemL (lstK D15 K16) (by omega) hbp ?_
  refine args_nil ⟨Keep.refl _, rCt (alike_ct W16 (hA.le (by omega)) (Tq15.keeps K16) (Tp15.keeps K16) (by omega) (by omega) (by omega) (by omega)) ?_⟩
  rintro v a17 d17 k17 K17 rfl
  rw [show (prepF (joinF q.1 ([(p.1, tp1)].map (·.1))) == joinF (prepF q.1) ([(prepF p.1, up)].map (·.1))) = alikeF q p from e3]
  refine PyProof.Rows.ne_bool (wpAny_truthy_bool ?_)
  refine ite_f (by simp) ?_
  refine wpAny_execs_nil ?_
  have F17 := Frk F15 (K16.trans K17)
  refine wpAny_execs_nil (H a17 _ _ _ F17 ?_ h1 h2)
  exact (kbh.trans kb15).keep (K16.trans K17)
end
end
end Mine
namespace Mine
noncomputable section
theorem digs_len7 {n : Nat} (h : n < 1000000) : (digs n).length ≤ 10 := digs_len h
theorem small_parts (ns : List Int) : Small ((numL ns).map ptN) := by
  refine ⟨by rw [List.length_map]; exact numL_len ns, fun p hp => ?_⟩
  obtain ⟨n, hn, rfl⟩ := List.mem_map.mp hp
  have h1 := digs_len (numL_lt ns n hn)
  have h2 := part_len n (digs n)
  unfold ptN
  omega
/-- the plain law's two halves, of the parts of a script -/
def PL1 (P : List (Str × Str)) : Prop := ∀ (i : Nat) (p : Str × Str) (r : List (Str × Str)), P.drop i = p :: r → prepF (joinF p.1 (fsts r)) = (hungF (p :: r)).2 ∧ joinF (prepF p.1) (rdy r) = (hungF (dups (p :: r))).2
def PL2 (P : List (Str × Str)) : Prop := ∀ (i : Nat) (q p : Str × Str), P[prevI P.length i]? = some q → P[i]? = some p → (prepF (joinF q.1 [p.1]) == joinF (prepF q.1) [prepF p.1]) = alikeF q p
theorem law_ct {w : World} {mg mb : Str → Option Value} {A : Around} {s : Shared} (W : Wd w mg mb s.heap) (hA : Rm A 4) {a : Addr} {vs : List Value} {ns : List Int} (ha : s.heap.IsList a vs.toArray) (hi : IntsAre vs ns) (hlen : ns.length ≤ 1000)
    (p1 : PL1 ((numL ns).map ptN)) (p2 : PL2 ((numL ns).map ptN)) : Ct w A (.call (.ref 224) ⟨[.ref a], []⟩) s (fun v _ => v = .bool true) := by
  refine enter (i := 27) ["script"] [.ref a] W (by decide) hA.room (fun _ _ => rfl) (by decide +kernel) (by decide +kernel) ?_
  intro cd h₁ L F W1
  have R1 : Rm (A.deeper (envL L cd)) 3 := hA.deeper
  have hS := small_parts ns
  generalize hPe : (numL ns).map ptN = P at p1 p2 hS
  refine wpAny_execs_cons ?_
  refine law_parts R1 W F ha hi hlen rfl ?_
  intro D h2 d2 k2 vsP F2 L2 P2
  rw [hPe] at P2
  refine wpAny_execs_cons ?_
  refine law_ready R1 W F2 L2 P2 (by have := hS.1; omega) (fun p hp => by have := (hS.2 p hp).1; omega) rfl ?_
  intro D2 h3 d3 k3 vsR F3 kb3 L3 S3
  have L23 := kbList kb3 F2.ns L2
  have P23 := prsKT P2 (kbKT kb3 F2.ns)
  have hvl := P23.1
  have hSl := hS.1
  refine wpAny_execs_cons ?_
  refine for_walk (fun i s' => ∃ h dr k m, s' = ⟨h, s.gens, dr, k, s.os⟩ ∧ Fr s.heap L h m ∧ m "parts" = some (.ref D) ∧ m "ready" = some (.ref D2) ∧ h.IsList D vsP.toArray ∧ Prs h vsP P ∧ h.IsList D2 vsR.toArray) ?_
  refine Call_ (rBl (W.keeps F3.keep) (v := .type "range") (by decide) ?_)
  refine PyProof.Rows.callWith_type1 (args_cons ?_)
  refine Call_ (rBl (W.keeps F3.keep) (v := .builtin "len") (by decide) ?_)
  refine PyProof.Rows.callWith_builtin1 (args_cons (rLd F3 rfl (args_nil (len_list L23 (by rw [List.size_toArray]; omega) (args_nil ?_)))))
  refine call_range_1 ?_
  dsimp only
  have hN : ((vsP.toArray.size : Nat) : Int) = (P.length : Int) := by rw [List.size_toArray, hvl]
  rw [hN]
  refine wpAny_pyIter_range (IsRange.new ..) (small_one (by decide) (by decide) (by omega) (by omega)) ?_
  dsimp only
  generalize hh4 : h3.push { cls := .type "range", data := .fields #[.int 0 _, .int (P.length : Int) _, .int 1 _] } = h4
  have K34 : Keep h3 h4 := by rw [← hh4]; exact keep_push _ _
  have hsz : Builtin.Range.rangeSize 0 (P.length : Int) 1 = (P.length : Int) := by rw [rangeSize_one]; split <;> omega
  rw [hsz]
  have F4 := Frk F3 K34
  have hLI : L ≠ h4.objs.size := Nat.ne_of_lt (frLt F4)
  have Wk := Walks.range (prog := prog) (w := w) R1.hd h4.objs.size 0 1 P.length
  refine ⟨h4.objs.size, _, _, _, _, _, rfl, Wk, ?_, ?_, ?_, ?_⟩
  · have e1 : (0 + ((0 : Nat) : Int) * 1) = 0 := by simp
    have e2 : ((P.length : Int) - ((0 : Nat) : Int)) = P.length := by simp
    rw [e1, e2]
    exact Heap.get?_push_size _ rfl
  · exact ⟨_, _, _, _, rfl, Frk F4 (keep_push _ _), rfl, rfl, lstK (lstK L23 K34) (keep_push _ _), P23.keeps (K34.trans (keep_push _ _)), lstK (lstK L3 K34) (keep_push _ _)⟩
  · rintro i s₃ v h' tk hlt hst ⟨h, dr, k, m, rfl, Fh, hm1, hm2, hl1, hp1, hl2⟩ ⟨t, rfl⟩ hst' hk
    dsimp only at hst hk
    have F' : Fr s.heap L h' m := Frb Fh hk (frNew F4) hLI
    have hI : ∀ items, ¬ IsTup h h4.objs.size items := fun items => by
      rintro ⟨ob, e, c, _⟩
      have := hst
      unfold IsRangeIter at this
      rw [e] at this
      cases this
      exact absurd (show Value.type "range_iterator" = Value.type "tuple" from c) (by decide)
    have hIl : ∀ b items, h.IsList b items → b ≠ h4.objs.size := fun b items ⟨ob, e, c, _⟩ hb => by
      subst hb
      have := hst
      unfold IsRangeIter at this
      rw [e] at this
      cases this
      exact absurd (show Value.type "range_iterator" = Value.type "list" from c) (by decide)
    have kt : KT h h' := KT.but hk fun b hb items => by rw [List.mem_singleton] at hb; subst hb; exact hI items
    have lk : ∀ b items, h.IsList b items → h'.IsList b items := fun b items l => by
      have hne := hIl b items l
      obtain ⟨ob, e, r⟩ := l
      exact ⟨ob, hk b ob (by rw [List.mem_singleton]; exact hne) e, r⟩
    have hl1' := lk _ _ hl1
    have hl2' := lk _ _ hl2
    have hp1' := prsKT hp1 kt
    refine wpAny_pure (PyProof.Rows.assign_Name (rSt F' fun a₁ k₁ G1 B1 => ?_))
    have kb1 : Kb L h' a₁ := (Kb.refl L h').same B1
    have hiv : (0 + (i : Int) * 1) = (i : Int) := by omega
    obtain ⟨p, r, hd⟩ : ∃ p r, P.drop i = p :: r := ⟨_, _, List.drop_eq_getElem_cons hlt⟩
    have hpi : P[i]? = some p := by
      have : (P.drop i)[0]? = some p := by rw [hd]; rfl
      rw [List.getElem?_drop] at this; exact this
    obtain ⟨q, hq⟩ : ∃ q, P[prevI P.length i]? = some q := ⟨_, List.getElem?_eq_getElem (by unfold prevI; split <;> omega)⟩
    refine law_turn (D := D) (D2 := D2) (tp := t) R1 W G1 (kbList kb1 F'.ns hl1') (prsKT hp1' (kbKT kb1 F'.ns)) (kbList kb1 F'.ns hl2') S3 hS hm1 hm2 (by show some (Value.int (0 + (i : Int) * 1) t) = _; rw [hiv]) hd hq (p1 i p r hd).1 (p1 i p r hd).2 (p2 i q p hq hpi) ?_
    intro h₉ d₉ k₉ m₉ F9 kb9 e1 e2
    have kbA : Kb L h' h₉ := kb1.trans kb9
    refine ⟨Wk.frame (i + 1) h' h₉ hst' fun b hb ob e => kbA b ob ?_ e, h₉, d₉, k₉, m₉, rfl, F9, e1, e2, kbList kbA F'.ns hl1', prsKT hp1' (kbKT kbA F'.ns), kbList kbA F'.ns hl2'⟩
    rw [List.mem_singleton] at hb
    subst hb
    exact hLI.symm
  · rintro s₃ h' tk hst ⟨h, dr, k, m, rfl, Fh, hm1, hm2, hl1, hp1, hl2⟩ hk
    have F' : Fr s.heap L h' m := Frb Fh hk (frNew F4) hLI
    refine wpAny_execs_cons (wpAny_Return_some (wpAny_Constant_bool ?_))
    exact ⟨F'.keep, rfl, rfl, rfl⟩
end
end Mine
namespace Mine
noncomputable section
/-- a text's signs -/
abbrev sg (x : Str) : List Nat := x.cps.toList
def sE : Str := ""
def sS : Str := "/"
theorem sg_app (x y : Str) : sg (x ++ y) = sg x ++ sg y := by show (x ++ y).cps.toList = _; rw [Str.cps_append, Array.toList_append]
theorem sg_inj {x y : Str} (h : sg x = sg y) : x = y := by
  obtain ⟨a⟩ := x
  obtain ⟨b⟩ := y
  exact congrArg Str.mk (Array.toList_inj.mp h)
theorem sg_len (x : Str) : x.length = (sg x).length := by show x.cps.size = _; rw [Array.length_toList]
theorem sg_S : sg sS = [47] := rfl
theorem sg_E : sg sE = [] := rfl
theorem str_beq (x y : Str) : (x == y) = (sg x == sg y) := by
  by_cases h : x = y
  · subst h; simp
  · have : sg x ≠ sg y := fun e => h (sg_inj e)
    rw [beq_eq_false_iff_ne.mpr this]
    exact beq_eq_false_iff_ne.mpr h
/-- opens with a slash; ends with one -/
def sw (x : Str) : Bool := (sg x).head? == some 47
def ew (x : Str) : Bool := (sg x).getLast? == some 47
def em (x : Str) : Bool := (sg x).isEmpty
theorem hd1_eq (x : Str) : (hd1 x == sS) = sw x := by
  rw [str_beq, sg_S]
  by_cases h0 : x.length = 0
  · have e : sg x = [] := List.length_eq_zero_iff.mp (by rw [← sg_len]; exact h0)
    obtain rfl : x = sE := sg_inj e
    decide +kernel
  · have e : hd1 x = ⟨((sg x).take 1).toArray⟩ := by
      show StrLaws.sliceText x none (some 1) = _
      have := StrLaws.sliceText_nat x (a := 0) (b := 1) (by omega) (by omega)
      unfold StrLaws.sliceText at this ⊢
      rw [StrLaws.sliceIdx_none_lo]
      exact this
    rw [e]
    show ((sg x).take 1 == [47]) = ((sg x).head? == some 47)
    rw [sg_len] at h0
    cases h : sg x with
    | nil => rw [h] at h0; exact absurd rfl h0
    | cons a r => simp
theorem ls1_sg (x : Str) : sg (ls1 x) = (sg x).getLast?.toList := by
  by_cases h0 : x.length = 0
  · have e : sg x = [] := List.length_eq_zero_iff.mp (by rw [← sg_len]; exact h0)
    obtain rfl : x = sE := sg_inj e
    decide +kernel
  · have e : ls1 x = ⟨(((sg x).drop ((-1 : Int) + x.length).toNat).take (((sg x).length : Int) - (-1 + x.length)).toNat).toArray⟩ := StrLaws.sliceText_from_neg (by decide) (by omega)
    rw [e]
    show ((sg x).drop ((-1 : Int) + x.length).toNat).take (((sg x).length : Int) - (-1 + x.length)).toNat = _
    rw [sg_len] at h0 ⊢
    rw [show ((-1 : Int) + ((sg x).length : Int)).toNat = (sg x).length - 1 by omega, show (((sg x).length : Int) - (-1 + ((sg x).length : Int))).toNat = 1 by omega]
    generalize sg x = l at h0
    rcases List.eq_nil_or_concat l with rfl | ⟨r, a, rfl⟩
    · exact absurd rfl h0
    · simp
theorem ls1_eq (x : Str) : (ls1 x == sS) = ew x := by
  rw [str_beq, sg_S, ls1_sg]
  unfold ew
  cases (sg x).getLast? with
  | none => rfl
  | some a => simp
theorem sw_eq (x : Str) : Txt.startswith x sS = sw x := by
  unfold Txt.startswith sw
  rw [StrLaws.subAt_eq, sg_len, sg_len, sg_S]
  show (decide (0 + 1 ≤ (sg x).length) && ((sg x).drop 0).take 1 == [47]) = _
  cases h : sg x with
  | nil => rfl
  | cons a r => simp
theorem ew_eq (x : Str) : Txt.endswith x sS = ew x := by
  unfold Txt.endswith ew
  rw [StrLaws.subAt_eq, sg_len, sg_len, sg_S]
  show (decide (0 + 1 ≤ (sg x).length) && ((sg x).drop ((sg x).length - 1)).take 1 == [47]) = _
  generalize sg x = l
  rcases List.eq_nil_or_concat l with rfl | ⟨r, a, rfl⟩
  · rfl
  · simp
theorem gap_eq (x : Str) : gapF x = if em x || ew x then sE else sS := by
  have e : (([Str.ofString "", Str.ofString "/"] : List Str).any (fun y => y == ls1 x)) = (em x || ew x) := by
    show ((sE == ls1 x) || ((sS == ls1 x) || false)) = _
    rw [str_beq, str_beq, sg_E, sg_S, ls1_sg]
    unfold ew em
    cases h : (sg x).getLast? with
    | none =>
      rw [List.getLast?_eq_none_iff] at h
      rw [h]; rfl
    | some a =>
      cases h2 : sg x with
      | nil => rw [h2] at h; cases h
      | cons b r => simp [eq_comm]; exact BEq.comm
  unfold gapF
  rw [e]; rfl
theorem em_iff {x : Str} : em x = true ↔ x = sE := by
  unfold em
  constructor
  · intro h; exact sg_inj (by rw [List.isEmpty_iff.mp h]; rfl)
  · rintro rfl; rfl
theorem joinStep_eq (x b : Str) : joinStep x b = if sw b then b else x ++ gapF x ++ b := by
  have e0 : joinStep x b = if sw b || x.length == 0 then b else if ew x then x ++ b else x ++ (sS ++ b) := by
    unfold joinStep
    rw [show Txt.startswith b "/" = sw b from sw_eq b, show Txt.endswith x "/" = ew x from ew_eq x]; rfl
  rw [e0, gap_eq]
  cases h1 : sw b with
  | true => rfl
  | false =>
    cases h2 : em x with
    | true =>
      obtain rfl := em_iff.mp h2
      exact (sg_inj (by rw [sg_app, sg_app]; rfl) : b = sE ++ sE ++ b)
    | false =>
      have h3 : (x.length == 0) = false := by
        rw [beq_eq_false_iff_ne, sg_len]
        intro e
        rw [show em x = true from by unfold em; rw [List.length_eq_zero_iff.mp e]; rfl] at h2
        cases h2
      rw [h3]
      cases h4 : ew x with
      | true => exact (sg_inj (by rw [sg_app, sg_app, sg_app, sg_E, List.append_nil]) : x ++ b = x ++ sE ++ b)
      | false => exact (sg_inj (by simp only [sg_app, List.append_assoc]) : x ++ (sS ++ b) = x ++ sS ++ b)
theorem app_assoc (a b c : Str) : a ++ b ++ c = a ++ (b ++ c) := sg_inj (by simp only [sg_app, List.append_assoc])
theorem app_E (a : Str) : a ++ sE = a := sg_inj (by rw [sg_app, sg_E, List.append_nil])
theorem E_app (a : Str) : sE ++ a = a := sg_inj (by rw [sg_app]; rfl)
theorem sw_app (a b : Str) : sw (a ++ b) = if em a then sw b else sw a := by
  unfold sw em
  rw [sg_app]
  cases sg a with
  | nil => rfl
  | cons c r => rfl
theorem ew_app (a b : Str) : ew (a ++ b) = if em b then ew a else ew b := by
  unfold ew em
  rw [sg_app]
  cases h : sg b with
  | nil => rw [List.append_nil]; rfl
  | cons c r => rw [List.getLast?_append]; cases h2 : (c :: r).getLast? with
    | none => rw [List.getLast?_eq_none_iff] at h2; cases h2
    | some d => rfl
theorem em_app (a b : Str) : em (a ++ b) = (em a && em b) := by
  unfold em
  rw [sg_app]
  cases sg a with
  | nil => rfl
  | cons c r => rfl
theorem gapE : gapF sE = sE := by rw [gap_eq]; rfl
theorem ewS : ew sS = true := by decide
theorem emS : em sS = false := by decide
theorem swS : sw sS = true := by decide
/-- _law_hung on texts, from the right -/
def hr : List Str → Str
  | [] => sE
  | [y] => y
  | a :: b :: r => joinStep a (hr (b :: r))
theorem hr_cons (a : Str) {l : List Str} (h : l ≠ []) : hr (a :: l) = joinStep a (hr l) := by
  cases l with
  | nil => exact absurd rfl h
  | cons b r => rfl
theorem step_step (x b J : Str) : joinStep (joinStep x b) J = joinStep x (joinStep b J) := by
  rw [joinStep_eq (joinStep x b) J, joinStep_eq b J]
  cases hJ : sw J with
  | true => simp only [if_true]; rw [joinStep_eq, hJ]; rfl
  | false =>
    simp only [Bool.false_eq_true, if_false]
    rw [joinStep_eq x b, joinStep_eq x]
    cases hb : sw b with
    | true =>
      have hbe : em b = false := by
        unfold sw at hb
        unfold em
        cases h : sg b with
        | nil => rw [h] at hb; cases hb
        | cons c r => rfl
      have : sw (b ++ gapF b ++ J) = true := by rw [app_assoc, sw_app, hbe]; exact hb
      rw [this]; rfl
    | false =>
      simp only [Bool.false_eq_true, if_false]
      cases hbe : em b with
      | true =>
        obtain rfl := em_iff.mp hbe
        simp only [gapE, app_E, E_app, hJ, Bool.false_eq_true, if_false]
        have : gapF (x ++ gapF x) = sE := by
          rw [gap_eq x]
          cases hx : (em x || ew x) with
          | true =>
            simp only [if_true, app_E]
            rw [gap_eq, hx]; rfl
          | false =>
            simp only [Bool.false_eq_true, if_false]
            rw [gap_eq, ew_app, emS, ewS]
            simp
        rw [this, app_E]
      | false =>
        have h1 : sw (b ++ gapF b ++ J) = false := by rw [app_assoc, sw_app, hbe]; exact hb
        have h2 : gapF (x ++ gapF x ++ b) = gapF b := by
          rw [gap_eq, gap_eq b, em_app, ew_app, hbe]; simp
        rw [h1, h2]
        simp only [Bool.false_eq_true, if_false, app_assoc]
theorem join_hr (l : List Str) : ∀ x : Str, joinF x l = hr (x :: l) := by
  induction l with
  | nil => intro x; rfl
  | cons b r ih =>
    intro x
    show joinF (joinStep x b) r = _
    rw [ih]
    cases r with
    | nil => rfl
    | cons c r =>
      rw [hr_cons _ (by simp), hr_cons x (by simp), hr_cons b (by simp)]
      exact step_step x b _
theorem hungStep_eq (j a : Str × Str) : hungStep j a = if sw j.1 then j else (a.1 ++ gapF a.1 ++ j.1, a.2 ++ gapF a.1 ++ j.2) := by
  unfold hungStep
  rw [show (hd1 j.1 == "/") = sw j.1 from hd1_eq j.1]
theorem hung_cons (a : Str × Str) {l : List (Str × Str)} (h : l ≠ []) : hungF (a :: l) = hungStep (hungF l) a := by
  unfold hungF
  rw [List.dropLast_cons_of_ne_nil h, List.reverse_cons, List.foldl_append, List.getLast?_cons]
  cases l with
  | nil => exact absurd rfl h
  | cons b r =>
    obtain ⟨z, hz⟩ : ∃ z, (b :: r).getLast? = some z := ⟨_, List.getLast?_eq_some_getLast (by simp)⟩
    rw [hz]; simp
theorem hung_one (a : Str × Str) : hungF [a] = a := rfl
theorem hung_fst : ∀ l : List (Str × Str), (hungF l).1 = hr (fsts l)
  | [] => rfl
  | [a] => rfl
  | a :: b :: r => by
    rw [hung_cons a (by simp), hungStep_eq]
    have ih := hung_fst (b :: r)
    show _ = hr (a.1 :: fsts (b :: r))
    rw [hr_cons _ (by simp [fsts]), ← ih, joinStep_eq]
    cases sw (hungF (b :: r)).1 <;> rfl
end
end Mine
namespace Mine
noncomputable section
theorem prep_sg (x : Str) : sg (prepF x) = (prepL (sg x)).flatMap sg := joinE_cps _
theorem prep_app (a b : Str) : prepF (a ++ b) = prepF a ++ prepF b := by
  apply sg_inj
  rw [prep_sg, sg_app, prepL_app, List.flatMap_append, sg_app, prep_sg, prep_sg]
theorem prep_E : prepF sE = sE := by kernel_rfl!
theorem prep_S : prepF sS = sS := by kernel_rfl!
theorem prep_gap (x : Str) : prepF (gapF x) = gapF x := by
  rw [gap_eq]
  cases (em x || ew x)
  · exact prep_S
  · exact prep_E
theorem hung_snd : ∀ l : List (Str × Str), l ≠ [] → (∀ p ∈ l, prepF p.1 = p.2) → (hungF l).2 = prepF (hungF l).1
  | [], h, _ => absurd rfl h
  | [a], _, h => (h a (List.mem_cons_self ..)).symm
  | a :: b :: r, _, h => by
    have ih := hung_snd (b :: r) (by simp) fun p hp => h p (List.mem_cons_of_mem _ hp)
    rw [hung_cons a (by simp), hungStep_eq]
    cases sw (hungF (b :: r)).1 with
    | true => exact ih
    | false =>
      show a.2 ++ gapF a.1 ++ (hungF (b :: r)).2 = prepF (a.1 ++ gapF a.1 ++ (hungF (b :: r)).1)
      rw [prep_app, prep_app, prep_gap, h a (List.mem_cons_self ..), ih]
theorem hung_dup : ∀ l : List (Str × Str), (∀ p ∈ l, p.1 = p.2) → (hungF l).1 = (hungF l).2
  | [], _ => rfl
  | [a], h => h a (List.mem_cons_self ..)
  | a :: b :: r, h => by
    have ih := hung_dup (b :: r) fun p hp => h p (List.mem_cons_of_mem _ hp)
    rw [hung_cons a (by simp), hungStep_eq]
    cases sw (hungF (b :: r)).1 with
    | true => exact ih
    | false =>
      show a.1 ++ gapF a.1 ++ (hungF (b :: r)).1 = a.2 ++ gapF a.1 ++ (hungF (b :: r)).2
      rw [h a (List.mem_cons_self ..), ih]
theorem pl1_of {P : List (Str × Str)} (h : ∀ p ∈ P, prepF p.1 = p.2) : PL1 P := by
  intro i p r hd
  have hm : ∀ q ∈ p :: r, prepF q.1 = q.2 := fun q hq => h q (List.mem_of_mem_drop (hd ▸ hq))
  constructor
  · rw [join_hr, hung_snd _ (by simp) hm, hung_fst]; rfl
  · rw [join_hr, ← hung_dup (dups (p :: r)) (fun q hq => by obtain ⟨z, _, rfl⟩ := List.mem_map.mp hq; rfl), hung_fst]
    have e : prepF p.1 :: rdy r = fsts (dups (p :: r)) := by
      unfold rdy fsts dups
      rw [List.map_map, List.map_cons, hm p (List.mem_cons_self ..)]
      refine congrArg (p.2 :: ·) (List.map_congr_left fun q hq => hm q (List.mem_cons_of_mem _ hq))
    rw [e]
theorem ew_prep {x : Str} (h : ew x = true) : ew (prepF x) = true ∧ em (prepF x) = false := by
  unfold ew at h
  obtain ⟨ys, hys⟩ : ∃ ys, sg x = ys ++ [47] := by
    rcases List.eq_nil_or_concat (sg x) with e | ⟨r, a, e⟩
    · rw [e] at h; cases h
    · rw [e] at h
      simp at h
      exact ⟨r, by rw [e, h]; simp⟩
  obtain rfl : x = (⟨ys.toArray⟩ : Str) ++ sS := sg_inj (by rw [sg_app, hys, sg_S])
  rw [prep_app, prep_S, ew_app, em_app, emS, ewS]
  exact ⟨rfl, by cases em (prepF (⟨ys.toArray⟩ : Str)) <;> rfl⟩
theorem sw_prep {x : Str} (h : sw x = true) : sw (prepF x) = true := by
  unfold sw at h
  obtain ⟨ys, hys⟩ : ∃ ys, sg x = 47 :: ys := by
    cases e : sg x with
    | nil => rw [e] at h; cases h
    | cons a r =>
      rw [e] at h
      simp at h
      exact ⟨r, by rw [h]⟩
  obtain rfl : x = sS ++ (⟨ys.toArray⟩ : Str) := sg_inj (by rw [sg_app, hys, sg_S]; rfl)
  rw [prep_app, prep_S, sw_app, emS]
  exact swS
theorem app_right {a b u : Str} : (a ++ u == b ++ u) = (a == b) := by
  rw [str_beq, str_beq, sg_app, sg_app]
  by_cases h : sg a = sg b
  · rw [h]; simp
  · have : sg a ++ sg u ≠ sg b ++ sg u := fun e => h (List.append_cancel_right e)
    rw [beq_eq_false_iff_ne.mpr this, beq_eq_false_iff_ne.mpr h]
theorem app_left {a b u : Str} : (u ++ a == u ++ b) = (a == b) := by
  rw [str_beq, str_beq, sg_app, sg_app]
  by_cases h : sg a = sg b
  · rw [h]; simp
  · have : sg u ++ sg a ≠ sg u ++ sg b := fun e => h (List.append_cancel_left e)
    rw [beq_eq_false_iff_ne.mpr this, beq_eq_false_iff_ne.mpr h]
theorem eq_self_app {a u : Str} : (a ++ u == u) = em a := by
  have : (a ++ u == sE ++ u) = (a == sE) := app_right
  rw [E_app] at this
  rw [this, str_beq, sg_E]
  unfold em
  cases sg a <;> rfl
theorem beq_E (x : Str) : (x == sE) = em x := by
  rw [str_beq, sg_E]
  unfold em
  cases sg x <;> rfl
theorem alike_eq (f l : Str × Str) : alikeF f l = if sw l.1 || em f.1 then true else !(sw l.2) && (!(em f.2) && (ew f.2 == ew f.1)) := by
  unfold alikeF
  have e1 : (hd1 l.1 == "/") = sw l.1 := hd1_eq l.1
  have e2 : (f.1 == "") = em f.1 := beq_E f.1
  have e3 : (hd1 l.2 != "/") = !(sw l.2) := by show (!(hd1 l.2 == sS)) = _; rw [hd1_eq]
  have e4 : (f.2 != "") = !(em f.2) := by show (!(f.2 == sE)) = _; rw [beq_E]
  have e5 : (ls1 f.2 == "/") = ew f.2 := ls1_eq f.2
  have e6 : (ls1 f.1 == "/") = ew f.1 := ls1_eq f.1
  rw [e1, e2, e3, e4, e5, e6]
theorem pl2_of {P : List (Str × Str)} (h : ∀ p ∈ P, prepF p.1 = p.2) : PL2 P := by
  intro i q p hq hp
  have eq := h q (List.mem_of_getElem? hq)
  have ep := h p (List.mem_of_getElem? hp)
  rw [alike_eq]
  show (prepF (joinStep q.1 p.1) == joinStep (prepF q.1) (prepF p.1)) = _
  rw [← eq, ← ep, joinStep_eq, joinStep_eq]
  cases h1 : sw p.1 with
  | true => rw [sw_prep h1]; simp
  | false =>
    cases h2 : em q.1 with
    | true =>
      obtain e := em_iff.mp h2
      rw [e, prep_E, gapE]
      simp only [Bool.false_eq_true, if_false, Bool.or_true, if_true, app_E, E_app]
      cases sw (prepF p.1) <;> simp
    | false =>
      simp only [Bool.false_eq_true, if_false, Bool.or_false]
      rw [prep_app, prep_app, prep_gap]
      have hg : em (prepF q.1 ++ gapF q.1) = false := by
        rw [em_app, gap_eq, h2]
        cases h3 : ew q.1 with
        | true => rw [(ew_prep h3).2]; rfl
        | false => simp [emS]
      cases h4 : sw (prepF p.1) with
      | true =>
        simp only [if_true]
        rw [eq_self_app, hg]; rfl
      | false =>
        simp only [Bool.false_eq_true, if_false]
        rw [app_right, app_left, gap_eq, gap_eq, h2]
        cases h5 : em (prepF q.1) with
        | true =>
          have h6 : ew q.1 = false := by
            cases h6 : ew q.1 with
            | false => rfl
            | true => rw [(ew_prep h6).2] at h5; cases h5
          rw [h6]
          cases ew (prepF q.1) <;> decide
        | false =>
          cases ew q.1 <;> cases ew (prepF q.1) <;> decide
end
end Mine
namespace Mine
noncomputable section
theorem mod_fin {B : Nat} (hB : 0 < B) (turn : Int) : ∃ k : _root_.Fin B, (turn % (B : Int)).toNat = k.val ∧ turn % (B : Int) = (k.val : Int) := by
  obtain ⟨n, hn, e⟩ := emod_cases turn B hB
  exact ⟨⟨n, hn⟩, by rw [e]; exact Int.toNat_natCast n, e⟩
/-- preparing one sign, by its number -/
def prep1 (c : Nat) : List Nat := (prepL [c]).flatMap sg
theorem prep_one (c : Nat) : sg (prepF ⟨#[c]⟩) = prep1 c := prep_sg _
def goneL : List Nat := [173, 847, 6150, 6155, 6156, 6157, 8203, 8204, 8205, 8288, 65279] ++ (List.range 16).map (65024 + ·)
theorem gone_ok : (List.range 27).all (fun k => (prep1 (goneL.getD k 0)).isEmpty) = true := by kernel_rfl!
theorem spec_prep : (List.range 16).all (fun k => prep1 ((specL.getD k (0, "")).1.toNat) == sg (specL.getD k (0, "")).2) = true := by kernel_rfl!
theorem a_ok : (List.range 5).all (fun k => prep1 (a5.getD k 0) == [97]) = true := by kernel_rfl!
theorem b_ok : (List.range 4).all (fun k => prep1 (b4.getD k 0) == [98]) = true := by kernel_rfl!
theorem dot_ok : prepF "." = "." := by kernel_rfl!
theorem far_b1 : b1L.all (fun x => decide (x < 19968) || decide (39967 < x)) = true := by kernel_rfl!
theorem far_b3 : pairs.all (fun x => decide (x.1 < 19968) || decide (39967 < x.1)) = true := by kernel_rfl!
theorem far_several : UnicodeData.severalLower.all (fun x => decide (x.1 < 19968) || decide (39967 < x.1)) = true := by kernel_rfl!
theorem far_one : UnicodeData.oneLower.all (fun x => decide (x.2.1 < 19968) || decide (39967 < x.1)) = true := by kernel_rfl!
theorem shifted_none : ∀ (l : List (Nat × Nat × Nat)) (c : Nat), 19968 ≤ c → c ≤ 39967 → l.all (fun x => decide (x.2.1 < 19968) || decide (39967 < x.1)) = true → Unicode.shifted l c = none
  | [], _, _, _, _ => rfl
  | (a, b, t) :: r, c, h0, h1, h => by
    rw [List.all_cons, Bool.and_eq_true, Bool.or_eq_true, decide_eq_true_eq, decide_eq_true_eq] at h
    unfold Unicode.shifted
    by_cases hc : c < a
    · rw [if_pos hc]
    · have : ¬ c ≤ b := by have := h.1; dsimp only at this; omega
      rw [if_neg hc, if_neg this]
      exact shifted_none r c h0 h1 h.2
theorem lookup_none {α : Type} : ∀ (l : List (Nat × α)) (c : Nat), 19968 ≤ c → c ≤ 39967 → l.all (fun x => decide (x.1 < 19968) || decide (39967 < x.1)) = true → l.lookup c = none
  | [], _, _, _, _ => rfl
  | (a, b) :: r, c, h0, h1, h => by
    rw [List.all_cons, Bool.and_eq_true, Bool.or_eq_true, decide_eq_true_eq, decide_eq_true_eq] at h
    have hne : (c == a) = false := by rw [beq_eq_false_iff_ne]; have := h.1; omega
    rw [List.lookup_cons, hne]
    exact lookup_none r c h0 h1 h.2
theorem lookup_noneI {α : Type} : ∀ (l : List (Int × α)) (c : Nat), 19968 ≤ c → c ≤ 39967 → l.all (fun x => decide (x.1 < 19968) || decide (39967 < x.1)) = true → l.lookup (c : Int) = none
  | [], _, _, _, _ => rfl
  | (a, b) :: r, c, h0, h1, h => by
    rw [List.all_cons, Bool.and_eq_true, Bool.or_eq_true, decide_eq_true_eq, decide_eq_true_eq] at h
    have hne : ((c : Int) == a) = false := by rw [beq_eq_false_iff_ne]; have := h.1; omega
    rw [List.lookup_cons, hne]
    exact lookup_noneI r c h0 h1 h.2
theorem cjk_ok {c : Nat} (h0 : 19968 ≤ c) (h1 : c ≤ 39967) : prepF ⟨#[c]⟩ = ⟨#[c]⟩ := by
  apply sg_inj
  rw [prep_one]
  have e1 : b1L.contains (c : Int) = false := by
    cases h : b1L.contains (c : Int) with
    | false => rfl
    | true =>
      have := List.all_eq_true.mp far_b1 _ (List.contains_iff_mem.mp h)
      rw [Bool.or_eq_true, decide_eq_true_eq, decide_eq_true_eq] at this
      omega
  have e2 : b3 c = none := lookup_noneI pairs c h0 h1 far_b3
  have e3 : Unicode.lowerOf c = [c] := by
    unfold Unicode.lowerOf Unicode.image
    rw [lookup_none _ c h0 h1 far_several, shifted_none _ c h0 h1 far_one]
    rfl
  unfold prep1 prepL m3
  rw [List.filter_cons, e1]
  show List.flatMap sg [(b3 c).getD (Txt.lower ⟨#[c]⟩)] = _
  rw [e2]
  show List.flatMap sg [Txt.lower ⟨#[c]⟩] = _
  rw [lower1, e3]; rfl
theorem nil_of_isEmpty {l : List Nat} (h : l.isEmpty = true) : l = [] := List.isEmpty_iff.mp h
theorem sign_prep (d : Nat) (turn : Int) : prepF (signOf d turn).1 = (signOf d turn).2 := by
  unfold signOf
  split
  · exact prep_S
  split
  · obtain ⟨k, e, _⟩ := mod_fin (B := 27) (by decide) turn
    have := List.all_eq_true.mp gone_ok k.val (List.mem_range.mpr k.isLt)
    apply sg_inj
    show sg (prepF ⟨#[goneC turn]⟩) = []
    rw [prep_one]
    have e' : (turn % 27).toNat = k.val := e
    unfold goneC
    rw [e']
    exact nil_of_isEmpty this
  split
  · obtain ⟨k, e, _⟩ := mod_fin (B := 5) (by decide) turn
    have := List.all_eq_true.mp a_ok k.val (List.mem_range.mpr k.isLt)
    apply sg_inj
    have e' : (turn % 5).toNat = k.val := e
    show sg (prepF ⟨#[a5.getD (turn % 5).toNat 0]⟩) = [97]
    rw [prep_one, e']
    exact beq_iff_eq.mp this
  split
  · obtain ⟨k, e, _⟩ := mod_fin (B := 16) (by decide) turn
    have := List.all_eq_true.mp spec_prep k.val (List.mem_range.mpr k.isLt)
    apply sg_inj
    have e' : (turn % 16).toNat = k.val := e
    show sg (prepF ⟨#[(specP turn).1.toNat]⟩) = sg (specP turn).2
    unfold specP
    rw [prep_one, e']
    exact beq_iff_eq.mp this
  split
  · exact dot_ok
  split
  · obtain ⟨k, e, _⟩ := mod_fin (B := 4) (by decide) turn
    have := List.all_eq_true.mp b_ok k.val (List.mem_range.mpr k.isLt)
    apply sg_inj
    have e' : (turn % 4).toNat = k.val := e
    show sg (prepF ⟨#[b4.getD (turn % 4).toNat 0]⟩) = [98]
    rw [prep_one, e']
    exact beq_iff_eq.mp this
  split
  · have h0 := Int.emod_nonneg turn (b := 20000) (by decide)
    have h1 := Int.emod_lt_of_pos turn (b := 20000) (by decide)
    exact cjk_ok (by omega) (by omega)
  · exact prep_E
theorem part_prep (number : Int) (ds : List Nat) : prepF (partF number ds).1 = (partF number ds).2 := by
  have : ∀ (ds : List Nat) (p : Str × Str), prepF p.1 = p.2 → prepF (ds.foldl (partStep number) p).1 = (ds.foldl (partStep number) p).2 := by
    intro ds
    induction ds with
    | nil => intro p h; exact h
    | cons d r ih =>
      intro p h
      refine ih _ ?_
      show prepF (p.1 ++ (signOf d (number + p.1.length)).1) = p.2 ++ (signOf d (number + p.1.length)).2
      rw [prep_app, h, sign_prep]
  exact this ds _ prep_E
theorem parts_prep (ns : List Int) : ∀ p ∈ (numL ns).map ptN, prepF p.1 = p.2 := by
  intro p hp
  obtain ⟨n, _, rfl⟩ := List.mem_map.mp hp
  exact part_prep _ _
end
end Mine
namespace Mine
open_shared top for PySem.Challenge.pw_pd0020_01 leaving 12
end Mine
namespace Mine
noncomputable section
def q0 : Pos := ⟨0, 0, 0, 0⟩
def fnd (s : Stmt) (g : Addr) (pm code : Value) (b : Addr) : FuncData := match s with
  | .FunctionDef n a bd _ _ _ sc _ _ _ => { name := n, qualname := n, params := a, body := .stmts bd, scope := sc, globals := g, closure := [], defaults := .none, kwdefaults := .none, pyModule := pm, code := code, builtins := b }
  | _ => default
def addKey (P : Params) (x : Str) (t : Nat) (v : Value) : Obj → Obj
  | ⟨c, d, .dict es n, sl⟩ => ⟨c, d, .dict (es.push ⟨PyData.keyHash P x, .str x t, v⟩) (n + 1), sl⟩
  | o => o
def setName (x : Str) (t : Nat) : Obj → Obj
  | ⟨c, d, .dict ⟨e :: es⟩ n, sl⟩ => ⟨c, d, .dict ⟨{ e with val := .str x t } :: es⟩ n, sl⟩
  | o => o
def addCode (line : Int) (c : Addr) : Obj → Obj
  | ⟨k, d, .fields vs, sl⟩ => ⟨k, d, .fields (vs.push (.int line 0) |>.push (.int 0 0) |>.push (.ref c)), sl⟩
  | o => o
def seqI (l : List (Int × Nat)) : List Value := l.map fun x => .int x.1 x.2
def l116 : List (Int × Nat) := [(173, 328), (847, 329), (6150, 330), (6155, 331), (6156, 332), (6157, 333), (8203, 334), (8204, 335), (8205, 336), (8288, 337), (65279, 338)]
def l118 : List (Int × Nat) := [(65024, 344), (65025, 345), (65026, 346), (65027, 347), (65028, 348), (65029, 349), (65030, 350), (65031, 351), (65032, 352), (65033, 353), (65034, 354), (65035, 355), (65036, 356), (65037, 357), (65038, 358), (65039, 359)]
def l123 : List (Int × Nat) := [(65024, 344), (65025, 345), (65026, 346), (65027, 347), (65028, 348), (65029, 349), (6150, 330), (65030, 350), (65031, 351), (65032, 352), (65033, 353), (6155, 331), (6156, 332), (6157, 333), (8203, 334), (8204, 335), (8205, 336), (65034, 354), (65035, 355), (65036, 356), (65037, 357), (65038, 358), (65039, 359), (173, 328), (847, 329), (8288, 337), (65279, 338)]
def T15 (P : Params) : BT := (.node (boot_o_0 P) (.node (boot_o_1 P) (.node (top.o_92 P) (.node (boot_o_7 P) (.node (top.o_7 P) (.node (top.o_23 P) (.node (top.o_59 P) .nil .nil) (.node (top.o_94 P) .nil .nil)) (.node (top.o_39 P) (.node (top.o_75 P) .nil .nil) (.node (top.o_110 P) .nil .nil))) (.node (top.o_15 P) (.node (top.o_31 P) (.node (top.o_67 P) .nil .nil) (.node (top.o_102 P) .nil .nil)) (.node (top.o_51 P) (.node (top.o_83 P) .nil .nil) .nil))) (.node (top.o_1 P) (.node (top.o_11 P) (.node (top.o_27 P) (.node (top.o_63 P) .nil .nil) (.node (top.o_98 P) .nil .nil)) (.node (top.o_47 P) (.node (top.o_79 P) .nil .nil) (.node (top.o_114 P) .nil .nil))) (.node (top.o_19 P) (.node (top.o_35 P) (.node (top.o_71 P) .nil .nil) (.node (top.o_106 P) .nil .nil)) (.node (top.o_55 P) (.node (top.o_87 P) .nil .nil) .nil)))) (.node (boot_o_5 P) (.node (boot_o_9 P) (.node (top.o_9 P) (.node (top.o_25 P) (.node (top.o_61 P) .nil .nil) (.node (top.o_96 P) .nil .nil)) (.node (top.o_45 P) (.node (top.o_77 P) .nil .nil) (.node (top.o_112 P) .nil .nil))) (.node (top.o_17 P) (.node (top.o_33 P) (.node (top.o_69 P) .nil .nil) (.node (top.o_104 P) .nil .nil)) (.node (top.o_53 P) (.node (top.o_85 P) .nil .nil) .nil))) (.node (top.o_3 P) (.node (top.o_13 P) (.node (top.o_29 P) (.node (top.o_65 P) .nil .nil) (.node (top.o_100 P) .nil .nil)) (.node (top.o_49 P) (.node (top.o_81 P) .nil .nil) .nil)) (.node (top.o_21 P) (.node (top.o_43 P) (.node (top.o_73 P) .nil .nil) (.node (top.o_108 P) .nil .nil)) (.node (top.o_57 P) (.node (top.o_89 P) .nil .nil) .nil))))) (.node (boot_o_2 P) (.node (boot_o_4 P) (.node (boot_o_8 P) (.node (top.o_8 P) (.node (top.o_24 P) (.node (top.o_60 P) .nil .nil) (.node (top.o_95 P) .nil .nil)) (.node (top.o_44 P) (.node (top.o_76 P) .nil .nil) (.node (top.o_111 P) .nil .nil))) (.node (top.o_16 P) (.node (top.o_32 P) (.node (top.o_68 P) .nil .nil) (.node (top.o_103 P) .nil .nil)) (.node (top.o_52 P) (.node (top.o_84 P) .nil .nil) .nil))) (.node (top.o_93 P) (.node (top.o_12 P) (.node (top.o_28 P) (.node (top.o_64 P) .nil .nil) (.node (top.o_99 P) .nil .nil)) (.node (top.o_48 P) (.node (top.o_80 P) .nil .nil) .nil)) (.node (top.o_20 P) (.node (top.o_36 P) (.node (top.o_72 P) .nil .nil) (.node (top.o_107 P) .nil .nil)) (.node (top.o_56 P) (.node (top.o_88 P) .nil .nil) .nil)))) (.node (boot_o_6 P) (.node (boot_o_10 P) (.node (top.o_10 P) (.node (top.o_26 P) (.node (top.o_62 P) .nil .nil) (.node (top.o_97 P) .nil .nil)) (.node (top.o_46 P) (.node (top.o_78 P) .nil .nil) (.node (top.o_113 P) .nil .nil))) (.node (top.o_18 P) (.node (top.o_34 P) (.node (top.o_70 P) .nil .nil) (.node (top.o_105 P) .nil .nil)) (.node (top.o_54 P) (.node (top.o_86 P) .nil .nil) .nil))) (.node (top.o_4 P) (.node (top.o_14 P) (.node (top.o_30 P) (.node (top.o_66 P) .nil .nil) (.node (top.o_101 P) .nil .nil)) (.node (top.o_50 P) (.node (top.o_82 P) .nil .nil) .nil)) (.node (top.o_22 P) (.node (top.o_38 P) (.node (top.o_74 P) .nil .nil) (.node (top.o_109 P) .nil .nil)) (.node (top.o_58 P) (.node (top.o_90 P) .nil .nil) .nil))))))
def S15 (w : World) (os : OsState) : SharedT := ⟨T15 w.params, 116, {}, ⟨[]⟩, {}, 328, os⟩
def p15 : Pos := ⟨86, 0, 86, 8⟩
def q_116 (_ : Params) : Obj := { cls := .type "list", data := .seq (seqI l116).toArray }
def q_117 (_ : Params) : Obj := { cls := .type "range", data := .fields #[.int 65024 339, .int 65040 340, .int 1 341] }
def q_118 (_ : Params) : Obj := { cls := .type "list", data := .seq (seqI l118).toArray 18 }
def q_119 (_ : Params) : Obj := { cls := .type "range_iterator", data := .fields #[.int 65040 0, .int 0 0, .int 1 0] }
def q_120 (_ : Params) : Obj := { cls := .type "tuple", data := .seq #[] }
def q_121 (_ : Params) : Obj := { cls := .type "StopIteration", data := .fields #[.ref 120, .none, .none, .none, .bool false, .none] }
def q_122 (_ : Params) : Obj := { cls := .type "list", data := .seq (seqI (l116 ++ l118)).toArray }
def q_123 (P : Params) : Obj := { cls := .type "set", data := .set (l123.map fun x => (x.1, Value.int x.1 x.2)).toArray 29 { mask := 127, place := #[0, 1, 2, 3, 4, 5, 6, 7, 8, 9, 10, 11, 12, 13, 14, 15, 16, 17, 18, 19, 20, 21, 22, 45, 79, 96, 127], dummies := #[], finger := 0, led := !P.followText "set-order", moves := 2, plain := true } }
def q_124 (_ : Params) : Obj := { cls := .type "list_iterator", data := .fields #[.none, .int 27 0] }
def q_125 (_ : Params) : Obj := { cls := .type "tuple", data := .seq #[] }
def q_126 (_ : Params) : Obj := { cls := .type "StopIteration", data := .fields #[.ref 125, .none, .none, .none, .bool false, .none] }
def m_16 (P : Params) : Obj := addKey P "b1_set" 387 (.ref 123) (top.o_92 P)
def T16 (P : Params) : BT := (.node (boot_o_0 P) (.node (boot_o_1 P) (.node (m_16 P) (.node (boot_o_7 P) (.node (top.o_7 P) (.node (top.o_23 P) (.node (top.o_59 P) .nil .nil) (.node (top.o_94 P) .nil .nil)) (.node (top.o_39 P) (.node (top.o_75 P) .nil .nil) (.node (top.o_110 P) .nil .nil))) (.node (top.o_15 P) (.node (top.o_31 P) (.node (top.o_67 P) .nil .nil) (.node (top.o_102 P) .nil .nil)) (.node (top.o_51 P) (.node (top.o_83 P) .nil .nil) (.node (q_119 P) .nil .nil)))) (.node (top.o_1 P) (.node (top.o_11 P) (.node (top.o_27 P) (.node (top.o_63 P) .nil .nil) (.node (top.o_98 P) .nil .nil)) (.node (top.o_47 P) (.node (top.o_79 P) .nil .nil) (.node (top.o_114 P) .nil .nil))) (.node (top.o_19 P) (.node (top.o_35 P) (.node (top.o_71 P) .nil .nil) (.node (top.o_106 P) .nil .nil)) (.node (top.o_55 P) (.node (top.o_87 P) .nil .nil) (.node (q_123 P) .nil .nil))))) (.node (boot_o_5 P) (.node (boot_o_9 P) (.node (top.o_9 P) (.node (top.o_25 P) (.node (top.o_61 P) .nil .nil) (.node (top.o_96 P) .nil .nil)) (.node (top.o_45 P) (.node (top.o_77 P) .nil .nil) (.node (top.o_112 P) .nil .nil))) (.node (top.o_17 P) (.node (top.o_33 P) (.node (top.o_69 P) .nil .nil) (.node (top.o_104 P) .nil .nil)) (.node (top.o_53 P) (.node (top.o_85 P) .nil .nil) (.node (q_121 P) .nil .nil)))) (.node (top.o_3 P) (.node (top.o_13 P) (.node (top.o_29 P) (.node (top.o_65 P) .nil .nil) (.node (top.o_100 P) .nil .nil)) (.node (top.o_49 P) (.node (top.o_81 P) .nil .nil) (.node (q_117 P) .nil .nil))) (.node (top.o_21 P) (.node (top.o_43 P) (.node (top.o_73 P) .nil .nil) (.node (top.o_108 P) .nil .nil)) (.node (top.o_57 P) (.node (top.o_89 P) .nil .nil) (.node (q_125 P) .nil .nil)))))) (.node (boot_o_2 P) (.node (boot_o_4 P) (.node (boot_o_8 P) (.node (top.o_8 P) (.node (top.o_24 P) (.node (top.o_60 P) .nil .nil) (.node (top.o_95 P) .nil .nil)) (.node (top.o_44 P) (.node (top.o_76 P) .nil .nil) (.node (top.o_111 P) .nil .nil))) (.node (top.o_16 P) (.node (top.o_32 P) (.node (top.o_68 P) .nil .nil) (.node (top.o_103 P) .nil .nil)) (.node (top.o_52 P) (.node (top.o_84 P) .nil .nil) (.node (q_120 P) .nil .nil)))) (.node (top.o_93 P) (.node (top.o_12 P) (.node (top.o_28 P) (.node (top.o_64 P) .nil .nil) (.node (top.o_99 P) .nil .nil)) (.node (top.o_48 P) (.node (top.o_80 P) .nil .nil) (.node (q_116 P) .nil .nil))) (.node (top.o_20 P) (.node (top.o_36 P) (.node (top.o_72 P) .nil .nil) (.node (top.o_107 P) .nil .nil)) (.node (top.o_56 P) (.node (top.o_88 P) .nil .nil) (.node (q_124 P) .nil .nil))))) (.node (boot_o_6 P) (.node (boot_o_10 P) (.node (top.o_10 P) (.node (top.o_26 P) (.node (top.o_62 P) .nil .nil) (.node (top.o_97 P) .nil .nil)) (.node (top.o_46 P) (.node (top.o_78 P) .nil .nil) (.node (top.o_113 P) .nil .nil))) (.node (top.o_18 P) (.node (top.o_34 P) (.node (top.o_70 P) .nil .nil) (.node (top.o_105 P) .nil .nil)) (.node (top.o_54 P) (.node (top.o_86 P) .nil .nil) (.node (q_122 P) .nil .nil)))) (.node (top.o_4 P) (.node (top.o_14 P) (.node (top.o_30 P) (.node (top.o_66 P) .nil .nil) (.node (top.o_101 P) .nil .nil)) (.node (top.o_50 P) (.node (top.o_82 P) .nil .nil) (.node (q_118 P) .nil .nil))) (.node (top.o_22 P) (.node (top.o_38 P) (.node (top.o_74 P) .nil .nil) (.node (top.o_109 P) .nil .nil)) (.node (top.o_58 P) (.node (top.o_90 P) .nil .nil) (.node (q_126 P) .nil .nil)))))))
def S16 (w : World) (os : OsState) : SharedT := ⟨T16 w.params, 127, {}, ⟨[]⟩, {}, 388, os⟩
def p16 : Pos := ⟨87, 0, 87, 6⟩
def q_127 (_ : Params) : Obj := { cls := .type "tuple", data := .seq #[] }
def q_128 (_ : Params) : Obj := { cls := .none, data := .fields #[] }
def q_129 (_ : Params) : Obj := { cls := .type "tuple", data := .seq #[.str "code" 391] }
def q_130 (_ : Params) : Obj := { cls := .type "tuple", data := .seq #[] }
def q_131 (_ : Params) : Obj := { cls := .none, data := .func (fnd (stm 17) 0 .none .none 0) }
def q_132 (_ : Params) : Obj := { cls := .type "code", data := .fields #[.str "in_table_b1" 388, .str "in_table_b1" 389, .str "/claim/cut.py" 390, .int 88 0, .int 1 0, .int 0 0, .int 0 0, .int 3 0, .ref 127, .bool true, .int 181 0, .ref 128, .none, .ref 129, .ref 130, .ref 131, .int 392 0, .int 88 0, .str "/claim/cut.py" 393] }
def q_133 (_ : Params) : Obj := { cls := .type "function", data := .func (fnd (stm 17) 3 (.str "cpy313.stringprep" 326) (.ref 132) 0) }
def c_17 (P : Params) : Obj := addCode 88 132 (top.o_93 P)
def m_17 (P : Params) : Obj := addKey P "in_table_b1" 394 (.ref 133) (m_16 P)
def T17 (P : Params) : BT := (.node (boot_o_0 P) (.node (boot_o_1 P) (.node (m_17 P) (.node (boot_o_7 P) (.node (top.o_7 P) (.node (top.o_23 P) (.node (top.o_59 P) (.node (q_127 P) .nil .nil) .nil) (.node (top.o_94 P) .nil .nil)) (.node (top.o_39 P) (.node (top.o_75 P) .nil .nil) (.node (top.o_110 P) .nil .nil))) (.node (top.o_15 P) (.node (top.o_31 P) (.node (top.o_67 P) .nil .nil) (.node (top.o_102 P) .nil .nil)) (.node (top.o_51 P) (.node (top.o_83 P) .nil .nil) (.node (q_119 P) .nil .nil)))) (.node (top.o_1 P) (.node (top.o_11 P) (.node (top.o_27 P) (.node (top.o_63 P) (.node (q_131 P) .nil .nil) .nil) (.node (top.o_98 P) .nil .nil)) (.node (top.o_47 P) (.node (top.o_79 P) .nil .nil) (.node (top.o_114 P) .nil .nil))) (.node (top.o_19 P) (.node (top.o_35 P) (.node (top.o_71 P) .nil .nil) (.node (top.o_106 P) .nil .nil)) (.node (top.o_55 P) (.node (top.o_87 P) .nil .nil) (.node (q_123 P) .nil .nil))))) (.node (boot_o_5 P) (.node (boot_o_9 P) (.node (top.o_9 P) (.node (top.o_25 P) (.node (top.o_61 P) (.node (q_129 P) .nil .nil) .nil) (.node (top.o_96 P) .nil .nil)) (.node (top.o_45 P) (.node (top.o_77 P) .nil .nil) (.node (top.o_112 P) .nil .nil))) (.node (top.o_17 P) (.node (top.o_33 P) (.node (top.o_69 P) .nil .nil) (.node (top.o_104 P) .nil .nil)) (.node (top.o_53 P) (.node (top.o_85 P) .nil .nil) (.node (q_121 P) .nil .nil)))) (.node (top.o_3 P) (.node (top.o_13 P) (.node (top.o_29 P) (.node (top.o_65 P) (.node (q_133 P) .nil .nil) .nil) (.node (top.o_100 P) .nil .nil)) (.node (top.o_49 P) (.node (top.o_81 P) .nil .nil) (.node (q_117 P) .nil .nil))) (.node (top.o_21 P) (.node (top.o_43 P) (.node (top.o_73 P) .nil .nil) (.node (top.o_108 P) .nil .nil)) (.node (top.o_57 P) (.node (top.o_89 P) .nil .nil) (.node (q_125 P) .nil .nil)))))) (.node (boot_o_2 P) (.node (boot_o_4 P) (.node (boot_o_8 P) (.node (top.o_8 P) (.node (top.o_24 P) (.node (top.o_60 P) (.node (q_128 P) .nil .nil) .nil) (.node (top.o_95 P) .nil .nil)) (.node (top.o_44 P) (.node (top.o_76 P) .nil .nil) (.node (top.o_111 P) .nil .nil))) (.node (top.o_16 P) (.node (top.o_32 P) (.node (top.o_68 P) .nil .nil) (.node (top.o_103 P) .nil .nil)) (.node (top.o_52 P) (.node (top.o_84 P) .nil .nil) (.node (q_120 P) .nil .nil)))) (.node (c_17 P) (.node (top.o_12 P) (.node (top.o_28 P) (.node (top.o_64 P) (.node (q_132 P) .nil .nil) .nil) (.node (top.o_99 P) .nil .nil)) (.node (top.o_48 P) (.node (top.o_80 P) .nil .nil) (.node (q_116 P) .nil .nil))) (.node (top.o_20 P) (.node (top.o_36 P) (.node (top.o_72 P) .nil .nil) (.node (top.o_107 P) .nil .nil)) (.node (top.o_56 P) (.node (top.o_88 P) .nil .nil) (.node (q_124 P) .nil .nil))))) (.node (boot_o_6 P) (.node (boot_o_10 P) (.node (top.o_10 P) (.node (top.o_26 P) (.node (top.o_62 P) (.node (q_130 P) .nil .nil) .nil) (.node (top.o_97 P) .nil .nil)) (.node (top.o_46 P) (.node (top.o_78 P) .nil .nil) (.node (top.o_113 P) .nil .nil))) (.node (top.o_18 P) (.node (top.o_34 P) (.node (top.o_70 P) .nil .nil) (.node (top.o_105 P) .nil .nil)) (.node (top.o_54 P) (.node (top.o_86 P) .nil .nil) (.node (q_122 P) .nil .nil)))) (.node (top.o_4 P) (.node (top.o_14 P) (.node (top.o_30 P) (.node (top.o_66 P) .nil .nil) (.node (top.o_101 P) .nil .nil)) (.node (top.o_50 P) (.node (top.o_82 P) .nil .nil) (.node (q_118 P) .nil .nil))) (.node (top.o_22 P) (.node (top.o_38 P) (.node (top.o_74 P) .nil .nil) (.node (top.o_109 P) .nil .nil)) (.node (top.o_58 P) (.node (top.o_90 P) .nil .nil) (.node (q_126 P) .nil .nil)))))))
def S17 (w : World) (os : OsState) : SharedT := ⟨T17 w.params, 134, {}, ⟨[]⟩, {}, 395, os⟩
def p17 : Pos := ⟨88, 0, 89, 30⟩
def entries : Nat → List (Int × Str) → List DictEntry
  | _, [] => []
  | t, (k, x) :: r => ⟨k, .int k t, .str x (t + 1)⟩ :: entries (t + 3) r
def entries2 : Nat → List (Int × Str) → List DictEntry
  | _, [] => []
  | t, (k, x) :: r => ⟨k, .int k t, .str x (t + 1)⟩ :: entries2 (t + 2) r
def bigObj (_ : Params) : Obj := { cls := .type "dict", data := .dict (entries 395 (pairs.take 646) ++ entries2 2333 (pairs.drop 646)).toArray 650 }
def subObj (i : Nat) (_ : Params) : Obj := { cls := .type "dict", data := .dict (((entries 395 pairs).drop (17 * i)).take 17).toArray 17 }
def subLast (_ : Params) : Obj := { cls := .type "dict", data := .dict (entries2 2333 (pairs.drop 646)).toArray 4 }
def TD (P : Params) : BT := (.node (boot_o_0 P) (.node (boot_o_1 P) (.node (m_17 P) (.node (boot_o_7 P) (.node (top.o_7 P) (.node (top.o_23 P) (.node (top.o_59 P) (.node (q_127 P) .nil .nil) .nil) (.node (top.o_94 P) (.node (subObj 25 P) .nil .nil) .nil)) (.node (top.o_39 P) (.node (top.o_75 P) (.node (subObj 9 P) .nil .nil) .nil) (.node (top.o_110 P) .nil .nil))) (.node (top.o_15 P) (.node (top.o_31 P) (.node (top.o_67 P) (.node (subObj 1 P) .nil .nil) .nil) (.node (top.o_102 P) (.node (subObj 33 P) .nil .nil) .nil)) (.node (top.o_51 P) (.node (top.o_83 P) (.node (subObj 17 P) .nil .nil) .nil) (.node (q_119 P) .nil .nil)))) (.node (top.o_1 P) (.node (top.o_11 P) (.node (top.o_27 P) (.node (top.o_63 P) (.node (q_131 P) .nil .nil) .nil) (.node (top.o_98 P) (.node (subObj 29 P) .nil .nil) .nil)) (.node (top.o_47 P) (.node (top.o_79 P) (.node (subObj 13 P) .nil .nil) .nil) (.node (top.o_114 P) .nil .nil))) (.node (top.o_19 P) (.node (top.o_35 P) (.node (top.o_71 P) (.node (subObj 5 P) .nil .nil) .nil) (.node (top.o_106 P) (.node (subObj 37 P) .nil .nil) .nil)) (.node (top.o_55 P) (.node (top.o_87 P) (.node (subObj 21 P) .nil .nil) .nil) (.node (q_123 P) .nil .nil))))) (.node (boot_o_5 P) (.node (boot_o_9 P) (.node (top.o_9 P) (.node (top.o_25 P) (.node (top.o_61 P) (.node (q_129 P) .nil .nil) .nil) (.node (top.o_96 P) (.node (subObj 27 P) .nil .nil) .nil)) (.node (top.o_45 P) (.node (top.o_77 P) (.node (subObj 11 P) .nil .nil) .nil) (.node (top.o_112 P) .nil .nil))) (.node (top.o_17 P) (.node (top.o_33 P) (.node (top.o_69 P) (.node (subObj 3 P) .nil .nil) .nil) (.node (top.o_104 P) (.node (subObj 35 P) .nil .nil) .nil)) (.node (top.o_53 P) (.node (top.o_85 P) (.node (subObj 19 P) .nil .nil) .nil) (.node (q_121 P) .nil .nil)))) (.node (top.o_3 P) (.node (top.o_13 P) (.node (top.o_29 P) (.node (top.o_65 P) (.node (q_133 P) .nil .nil) .nil) (.node (top.o_100 P) (.node (subObj 31 P) .nil .nil) .nil)) (.node (top.o_49 P) (.node (top.o_81 P) (.node (subObj 15 P) .nil .nil) .nil) (.node (q_117 P) .nil .nil))) (.node (top.o_21 P) (.node (top.o_43 P) (.node (top.o_73 P) (.node (subObj 7 P) .nil .nil) .nil) (.node (top.o_108 P) .nil .nil)) (.node (top.o_57 P) (.node (top.o_89 P) (.node (subObj 23 P) .nil .nil) .nil) (.node (q_125 P) .nil .nil)))))) (.node (boot_o_2 P) (.node (boot_o_4 P) (.node (boot_o_8 P) (.node (top.o_8 P) (.node (top.o_24 P) (.node (top.o_60 P) (.node (q_128 P) .nil .nil) .nil) (.node (top.o_95 P) (.node (subObj 26 P) .nil .nil) .nil)) (.node (top.o_44 P) (.node (top.o_76 P) (.node (subObj 10 P) .nil .nil) .nil) (.node (top.o_111 P) .nil .nil))) (.node (top.o_16 P) (.node (top.o_32 P) (.node (top.o_68 P) (.node (subObj 2 P) .nil .nil) .nil) (.node (top.o_103 P) (.node (subObj 34 P) .nil .nil) .nil)) (.node (top.o_52 P) (.node (top.o_84 P) (.node (subObj 18 P) .nil .nil) .nil) (.node (q_120 P) .nil .nil)))) (.node (c_17 P) (.node (top.o_12 P) (.node (top.o_28 P) (.node (top.o_64 P) (.node (q_132 P) .nil .nil) .nil) (.node (top.o_99 P) (.node (subObj 30 P) .nil .nil) .nil)) (.node (top.o_48 P) (.node (top.o_80 P) (.node (subObj 14 P) .nil .nil) .nil) (.node (q_116 P) .nil .nil))) (.node (top.o_20 P) (.node (top.o_36 P) (.node (top.o_72 P) (.node (subObj 6 P) .nil .nil) .nil) (.node (top.o_107 P) (.node (subLast P) .nil .nil) .nil)) (.node (top.o_56 P) (.node (top.o_88 P) (.node (subObj 22 P) .nil .nil) .nil) (.node (q_124 P) .nil .nil))))) (.node (boot_o_6 P) (.node (boot_o_10 P) (.node (top.o_10 P) (.node (top.o_26 P) (.node (top.o_62 P) (.node (q_130 P) .nil .nil) .nil) (.node (top.o_97 P) (.node (subObj 28 P) .nil .nil) .nil)) (.node (top.o_46 P) (.node (top.o_78 P) (.node (subObj 12 P) .nil .nil) .nil) (.node (top.o_113 P) .nil .nil))) (.node (top.o_18 P) (.node (top.o_34 P) (.node (top.o_70 P) (.node (subObj 4 P) .nil .nil) .nil) (.node (top.o_105 P) (.node (subObj 36 P) .nil .nil) .nil)) (.node (top.o_54 P) (.node (top.o_86 P) (.node (subObj 20 P) .nil .nil) .nil) (.node (q_122 P) .nil .nil)))) (.node (top.o_4 P) (.node (top.o_14 P) (.node (top.o_30 P) (.node (top.o_66 P) (.node (bigObj P) .nil .nil) .nil) (.node (top.o_101 P) (.node (subObj 32 P) .nil .nil) .nil)) (.node (top.o_50 P) (.node (top.o_82 P) (.node (subObj 16 P) .nil .nil) .nil) (.node (q_118 P) .nil .nil))) (.node (top.o_22 P) (.node (top.o_38 P) (.node (top.o_74 P) (.node (subObj 8 P) .nil .nil) .nil) (.node (top.o_109 P) .nil .nil)) (.node (top.o_58 P) (.node (top.o_90 P) (.node (subObj 24 P) .nil .nil) .nil) (.node (q_126 P) .nil .nil)))))))
def SD (w : World) (os : OsState) : SharedT := ⟨TD w.params, 173, {}, ⟨[]⟩, {}, 2345, os⟩
def m_18 (P : Params) : Obj := addKey P "b3_exceptions" 2345 (.ref 134) (m_17 P)
def T18 (P : Params) : BT := (.node (boot_o_0 P) (.node (boot_o_1 P) (.node (m_18 P) (.node (boot_o_7 P) (.node (top.o_7 P) (.node (top.o_23 P) (.node (top.o_59 P) (.node (q_127 P) .nil .nil) .nil) (.node (top.o_94 P) (.node (subObj 25 P) .nil .nil) .nil)) (.node (top.o_39 P) (.node (top.o_75 P) (.node (subObj 9 P) .nil .nil) .nil) (.node (top.o_110 P) .nil .nil))) (.node (top.o_15 P) (.node (top.o_31 P) (.node (top.o_67 P) (.node (subObj 1 P) .nil .nil) .nil) (.node (top.o_102 P) (.node (subObj 33 P) .nil .nil) .nil)) (.node (top.o_51 P) (.node (top.o_83 P) (.node (subObj 17 P) .nil .nil) .nil) (.node (q_119 P) .nil .nil)))) (.node (top.o_1 P) (.node (top.o_11 P) (.node (top.o_27 P) (.node (top.o_63 P) (.node (q_131 P) .nil .nil) .nil) (.node (top.o_98 P) (.node (subObj 29 P) .nil .nil) .nil)) (.node (top.o_47 P) (.node (top.o_79 P) (.node (subObj 13 P) .nil .nil) .nil) (.node (top.o_114 P) .nil .nil))) (.node (top.o_19 P) (.node (top.o_35 P) (.node (top.o_71 P) (.node (subObj 5 P) .nil .nil) .nil) (.node (top.o_106 P) (.node (subObj 37 P) .nil .nil) .nil)) (.node (top.o_55 P) (.node (top.o_87 P) (.node (subObj 21 P) .nil .nil) .nil) (.node (q_123 P) .nil .nil))))) (.node (boot_o_5 P) (.node (boot_o_9 P) (.node (top.o_9 P) (.node (top.o_25 P) (.node (top.o_61 P) (.node (q_129 P) .nil .nil) .nil) (.node (top.o_96 P) (.node (subObj 27 P) .nil .nil) .nil)) (.node (top.o_45 P) (.node (top.o_77 P) (.node (subObj 11 P) .nil .nil) .nil) (.node (top.o_112 P) .nil .nil))) (.node (top.o_17 P) (.node (top.o_33 P) (.node (top.o_69 P) (.node (subObj 3 P) .nil .nil) .nil) (.node (top.o_104 P) (.node (subObj 35 P) .nil .nil) .nil)) (.node (top.o_53 P) (.node (top.o_85 P) (.node (subObj 19 P) .nil .nil) .nil) (.node (q_121 P) .nil .nil)))) (.node (top.o_3 P) (.node (top.o_13 P) (.node (top.o_29 P) (.node (top.o_65 P) (.node (q_133 P) .nil .nil) .nil) (.node (top.o_100 P) (.node (subObj 31 P) .nil .nil) .nil)) (.node (top.o_49 P) (.node (top.o_81 P) (.node (subObj 15 P) .nil .nil) .nil) (.node (q_117 P) .nil .nil))) (.node (top.o_21 P) (.node (top.o_43 P) (.node (top.o_73 P) (.node (subObj 7 P) .nil .nil) .nil) (.node (top.o_108 P) .nil .nil)) (.node (top.o_57 P) (.node (top.o_89 P) (.node (subObj 23 P) .nil .nil) .nil) (.node (q_125 P) .nil .nil)))))) (.node (boot_o_2 P) (.node (boot_o_4 P) (.node (boot_o_8 P) (.node (top.o_8 P) (.node (top.o_24 P) (.node (top.o_60 P) (.node (q_128 P) .nil .nil) .nil) (.node (top.o_95 P) (.node (subObj 26 P) .nil .nil) .nil)) (.node (top.o_44 P) (.node (top.o_76 P) (.node (subObj 10 P) .nil .nil) .nil) (.node (top.o_111 P) .nil .nil))) (.node (top.o_16 P) (.node (top.o_32 P) (.node (top.o_68 P) (.node (subObj 2 P) .nil .nil) .nil) (.node (top.o_103 P) (.node (subObj 34 P) .nil .nil) .nil)) (.node (top.o_52 P) (.node (top.o_84 P) (.node (subObj 18 P) .nil .nil) .nil) (.node (q_120 P) .nil .nil)))) (.node (c_17 P) (.node (top.o_12 P) (.node (top.o_28 P) (.node (top.o_64 P) (.node (q_132 P) .nil .nil) .nil) (.node (top.o_99 P) (.node (subObj 30 P) .nil .nil) .nil)) (.node (top.o_48 P) (.node (top.o_80 P) (.node (subObj 14 P) .nil .nil) .nil) (.node (q_116 P) .nil .nil))) (.node (top.o_20 P) (.node (top.o_36 P) (.node (top.o_72 P) (.node (subObj 6 P) .nil .nil) .nil) (.node (top.o_107 P) (.node (subLast P) .nil .nil) .nil)) (.node (top.o_56 P) (.node (top.o_88 P) (.node (subObj 22 P) .nil .nil) .nil) (.node (q_124 P) .nil .nil))))) (.node (boot_o_6 P) (.node (boot_o_10 P) (.node (top.o_10 P) (.node (top.o_26 P) (.node (top.o_62 P) (.node (q_130 P) .nil .nil) .nil) (.node (top.o_97 P) (.node (subObj 28 P) .nil .nil) .nil)) (.node (top.o_46 P) (.node (top.o_78 P) (.node (subObj 12 P) .nil .nil) .nil) (.node (top.o_113 P) .nil .nil))) (.node (top.o_18 P) (.node (top.o_34 P) (.node (top.o_70 P) (.node (subObj 4 P) .nil .nil) .nil) (.node (top.o_105 P) (.node (subObj 36 P) .nil .nil) .nil)) (.node (top.o_54 P) (.node (top.o_86 P) (.node (subObj 20 P) .nil .nil) .nil) (.node (q_122 P) .nil .nil)))) (.node (top.o_4 P) (.node (top.o_14 P) (.node (top.o_30 P) (.node (top.o_66 P) (.node (bigObj P) .nil .nil) .nil) (.node (top.o_101 P) (.node (subObj 32 P) .nil .nil) .nil)) (.node (top.o_50 P) (.node (top.o_82 P) (.node (subObj 16 P) .nil .nil) .nil) (.node (q_118 P) .nil .nil))) (.node (top.o_22 P) (.node (top.o_38 P) (.node (top.o_74 P) (.node (subObj 8 P) .nil .nil) .nil) (.node (top.o_109 P) .nil .nil)) (.node (top.o_58 P) (.node (top.o_90 P) (.node (subObj 24 P) .nil .nil) .nil) (.node (q_126 P) .nil .nil)))))))
def S18 (w : World) (os : OsState) : SharedT := ⟨T18 w.params, 173, {}, ⟨[]⟩, {}, 2346, os⟩
def p18 : Pos := ⟨90, 0, 90, 13⟩
def q_173 (_ : Params) : Obj := { cls := .type "tuple", data := .seq #[] }
def q_174 (_ : Params) : Obj := { cls := .none, data := .fields #[] }
def q_175 (_ : Params) : Obj := { cls := .type "tuple", data := .seq #[.str "code" 2349, .str "r" 2350] }
def q_176 (_ : Params) : Obj := { cls := .type "tuple", data := .seq #[] }
def q_177 (_ : Params) : Obj := { cls := .none, data := .func (fnd (stm 19) 0 .none .none 0) }
def q_178 (_ : Params) : Obj := { cls := .type "code", data := .fields #[.str "map_table_b3" 2346, .str "map_table_b3" 2347, .str "/claim/cut.py" 2348, .int 91 0, .int 1 0, .int 0 0, .int 0 0, .int 3 0, .ref 173, .bool true, .int 181 0, .ref 174, .none, .ref 175, .ref 176, .ref 177, .int 2351 0, .int 91 0, .str "/claim/cut.py" 2352] }
def q_179 (_ : Params) : Obj := { cls := .type "function", data := .func (fnd (stm 19) 3 (.str "cpy313.stringprep" 326) (.ref 178) 0) }
def c_19 (P : Params) : Obj := addCode 91 178 (c_17 P)
def m_19 (P : Params) : Obj := addKey P "map_table_b3" 2353 (.ref 179) (m_18 P)
def T19 (P : Params) : BT := (.node (boot_o_0 P) (.node (boot_o_1 P) (.node (m_19 P) (.node (boot_o_7 P) (.node (top.o_7 P) (.node (top.o_23 P) (.node (top.o_59 P) (.node (q_127 P) .nil .nil) .nil) (.node (top.o_94 P) (.node (subObj 25 P) .nil .nil) .nil)) (.node (top.o_39 P) (.node (top.o_75 P) (.node (subObj 9 P) .nil .nil) .nil) (.node (top.o_110 P) (.node (q_175 P) .nil .nil) .nil))) (.node (top.o_15 P) (.node (top.o_31 P) (.node (top.o_67 P) (.node (subObj 1 P) .nil .nil) .nil) (.node (top.o_102 P) (.node (subObj 33 P) .nil .nil) .nil)) (.node (top.o_51 P) (.node (top.o_83 P) (.node (subObj 17 P) .nil .nil) .nil) (.node (q_119 P) .nil .nil)))) (.node (top.o_1 P) (.node (top.o_11 P) (.node (top.o_27 P) (.node (top.o_63 P) (.node (q_131 P) .nil .nil) .nil) (.node (top.o_98 P) (.node (subObj 29 P) .nil .nil) .nil)) (.node (top.o_47 P) (.node (top.o_79 P) (.node (subObj 13 P) .nil .nil) .nil) (.node (top.o_114 P) (.node (q_179 P) .nil .nil) .nil))) (.node (top.o_19 P) (.node (top.o_35 P) (.node (top.o_71 P) (.node (subObj 5 P) .nil .nil) .nil) (.node (top.o_106 P) (.node (subObj 37 P) .nil .nil) .nil)) (.node (top.o_55 P) (.node (top.o_87 P) (.node (subObj 21 P) .nil .nil) .nil) (.node (q_123 P) .nil .nil))))) (.node (boot_o_5 P) (.node (boot_o_9 P) (.node (top.o_9 P) (.node (top.o_25 P) (.node (top.o_61 P) (.node (q_129 P) .nil .nil) .nil) (.node (top.o_96 P) (.node (subObj 27 P) .nil .nil) .nil)) (.node (top.o_45 P) (.node (top.o_77 P) (.node (subObj 11 P) .nil .nil) .nil) (.node (top.o_112 P) (.node (q_177 P) .nil .nil) .nil))) (.node (top.o_17 P) (.node (top.o_33 P) (.node (top.o_69 P) (.node (subObj 3 P) .nil .nil) .nil) (.node (top.o_104 P) (.node (subObj 35 P) .nil .nil) .nil)) (.node (top.o_53 P) (.node (top.o_85 P) (.node (subObj 19 P) .nil .nil) .nil) (.node (q_121 P) .nil .nil)))) (.node (top.o_3 P) (.node (top.o_13 P) (.node (top.o_29 P) (.node (top.o_65 P) (.node (q_133 P) .nil .nil) .nil) (.node (top.o_100 P) (.node (subObj 31 P) .nil .nil) .nil)) (.node (top.o_49 P) (.node (top.o_81 P) (.node (subObj 15 P) .nil .nil) .nil) (.node (q_117 P) .nil .nil))) (.node (top.o_21 P) (.node (top.o_43 P) (.node (top.o_73 P) (.node (subObj 7 P) .nil .nil) .nil) (.node (top.o_108 P) (.node (q_173 P) .nil .nil) .nil)) (.node (top.o_57 P) (.node (top.o_89 P) (.node (subObj 23 P) .nil .nil) .nil) (.node (q_125 P) .nil .nil)))))) (.node (boot_o_2 P) (.node (boot_o_4 P) (.node (boot_o_8 P) (.node (top.o_8 P) (.node (top.o_24 P) (.node (top.o_60 P) (.node (q_128 P) .nil .nil) .nil) (.node (top.o_95 P) (.node (subObj 26 P) .nil .nil) .nil)) (.node (top.o_44 P) (.node (top.o_76 P) (.node (subObj 10 P) .nil .nil) .nil) (.node (top.o_111 P) (.node (q_176 P) .nil .nil) .nil))) (.node (top.o_16 P) (.node (top.o_32 P) (.node (top.o_68 P) (.node (subObj 2 P) .nil .nil) .nil) (.node (top.o_103 P) (.node (subObj 34 P) .nil .nil) .nil)) (.node (top.o_52 P) (.node (top.o_84 P) (.node (subObj 18 P) .nil .nil) .nil) (.node (q_120 P) .nil .nil)))) (.node (c_19 P) (.node (top.o_12 P) (.node (top.o_28 P) (.node (top.o_64 P) (.node (q_132 P) .nil .nil) .nil) (.node (top.o_99 P) (.node (subObj 30 P) .nil .nil) .nil)) (.node (top.o_48 P) (.node (top.o_80 P) (.node (subObj 14 P) .nil .nil) .nil) (.node (q_116 P) .nil .nil))) (.node (top.o_20 P) (.node (top.o_36 P) (.node (top.o_72 P) (.node (subObj 6 P) .nil .nil) .nil) (.node (top.o_107 P) (.node (subLast P) .nil .nil) .nil)) (.node (top.o_56 P) (.node (top.o_88 P) (.node (subObj 22 P) .nil .nil) .nil) (.node (q_124 P) .nil .nil))))) (.node (boot_o_6 P) (.node (boot_o_10 P) (.node (top.o_10 P) (.node (top.o_26 P) (.node (top.o_62 P) (.node (q_130 P) .nil .nil) .nil) (.node (top.o_97 P) (.node (subObj 28 P) .nil .nil) .nil)) (.node (top.o_46 P) (.node (top.o_78 P) (.node (subObj 12 P) .nil .nil) .nil) (.node (top.o_113 P) (.node (q_178 P) .nil .nil) .nil))) (.node (top.o_18 P) (.node (top.o_34 P) (.node (top.o_70 P) (.node (subObj 4 P) .nil .nil) .nil) (.node (top.o_105 P) (.node (subObj 36 P) .nil .nil) .nil)) (.node (top.o_54 P) (.node (top.o_86 P) (.node (subObj 20 P) .nil .nil) .nil) (.node (q_122 P) .nil .nil)))) (.node (top.o_4 P) (.node (top.o_14 P) (.node (top.o_30 P) (.node (top.o_66 P) (.node (bigObj P) .nil .nil) .nil) (.node (top.o_101 P) (.node (subObj 32 P) .nil .nil) .nil)) (.node (top.o_50 P) (.node (top.o_82 P) (.node (subObj 16 P) .nil .nil) .nil) (.node (q_118 P) .nil .nil))) (.node (top.o_22 P) (.node (top.o_38 P) (.node (top.o_74 P) (.node (subObj 8 P) .nil .nil) .nil) (.node (top.o_109 P) (.node (q_174 P) .nil .nil) .nil)) (.node (top.o_58 P) (.node (top.o_90 P) (.node (subObj 24 P) .nil .nil) .nil) (.node (q_126 P) .nil .nil)))))))
def S19 (w : World) (os : OsState) : SharedT := ⟨T19 w.params, 180, {}, ⟨[]⟩, {}, 2354, os⟩
def p19 : Pos := ⟨91, 0, 95, 23⟩
def m_20 (P : Params) : Obj := setName "law_pd0020_01" 2354 (m_19 P)
def T20 (P : Params) : BT := (.node (boot_o_0 P) (.node (boot_o_1 P) (.node (m_20 P) (.node (boot_o_7 P) (.node (top.o_7 P) (.node (top.o_23 P) (.node (top.o_59 P) (.node (q_127 P) .nil .nil) .nil) (.node (top.o_94 P) (.node (subObj 25 P) .nil .nil) .nil)) (.node (top.o_39 P) (.node (top.o_75 P) (.node (subObj 9 P) .nil .nil) .nil) (.node (top.o_110 P) (.node (q_175 P) .nil .nil) .nil))) (.node (top.o_15 P) (.node (top.o_31 P) (.node (top.o_67 P) (.node (subObj 1 P) .nil .nil) .nil) (.node (top.o_102 P) (.node (subObj 33 P) .nil .nil) .nil)) (.node (top.o_51 P) (.node (top.o_83 P) (.node (subObj 17 P) .nil .nil) .nil) (.node (q_119 P) .nil .nil)))) (.node (top.o_1 P) (.node (top.o_11 P) (.node (top.o_27 P) (.node (top.o_63 P) (.node (q_131 P) .nil .nil) .nil) (.node (top.o_98 P) (.node (subObj 29 P) .nil .nil) .nil)) (.node (top.o_47 P) (.node (top.o_79 P) (.node (subObj 13 P) .nil .nil) .nil) (.node (top.o_114 P) (.node (q_179 P) .nil .nil) .nil))) (.node (top.o_19 P) (.node (top.o_35 P) (.node (top.o_71 P) (.node (subObj 5 P) .nil .nil) .nil) (.node (top.o_106 P) (.node (subObj 37 P) .nil .nil) .nil)) (.node (top.o_55 P) (.node (top.o_87 P) (.node (subObj 21 P) .nil .nil) .nil) (.node (q_123 P) .nil .nil))))) (.node (boot_o_5 P) (.node (boot_o_9 P) (.node (top.o_9 P) (.node (top.o_25 P) (.node (top.o_61 P) (.node (q_129 P) .nil .nil) .nil) (.node (top.o_96 P) (.node (subObj 27 P) .nil .nil) .nil)) (.node (top.o_45 P) (.node (top.o_77 P) (.node (subObj 11 P) .nil .nil) .nil) (.node (top.o_112 P) (.node (q_177 P) .nil .nil) .nil))) (.node (top.o_17 P) (.node (top.o_33 P) (.node (top.o_69 P) (.node (subObj 3 P) .nil .nil) .nil) (.node (top.o_104 P) (.node (subObj 35 P) .nil .nil) .nil)) (.node (top.o_53 P) (.node (top.o_85 P) (.node (subObj 19 P) .nil .nil) .nil) (.node (q_121 P) .nil .nil)))) (.node (top.o_3 P) (.node (top.o_13 P) (.node (top.o_29 P) (.node (top.o_65 P) (.node (q_133 P) .nil .nil) .nil) (.node (top.o_100 P) (.node (subObj 31 P) .nil .nil) .nil)) (.node (top.o_49 P) (.node (top.o_81 P) (.node (subObj 15 P) .nil .nil) .nil) (.node (q_117 P) .nil .nil))) (.node (top.o_21 P) (.node (top.o_43 P) (.node (top.o_73 P) (.node (subObj 7 P) .nil .nil) .nil) (.node (top.o_108 P) (.node (q_173 P) .nil .nil) .nil)) (.node (top.o_57 P) (.node (top.o_89 P) (.node (subObj 23 P) .nil .nil) .nil) (.node (q_125 P) .nil .nil)))))) (.node (boot_o_2 P) (.node (boot_o_4 P) (.node (boot_o_8 P) (.node (top.o_8 P) (.node (top.o_24 P) (.node (top.o_60 P) (.node (q_128 P) .nil .nil) .nil) (.node (top.o_95 P) (.node (subObj 26 P) .nil .nil) .nil)) (.node (top.o_44 P) (.node (top.o_76 P) (.node (subObj 10 P) .nil .nil) .nil) (.node (top.o_111 P) (.node (q_176 P) .nil .nil) .nil))) (.node (top.o_16 P) (.node (top.o_32 P) (.node (top.o_68 P) (.node (subObj 2 P) .nil .nil) .nil) (.node (top.o_103 P) (.node (subObj 34 P) .nil .nil) .nil)) (.node (top.o_52 P) (.node (top.o_84 P) (.node (subObj 18 P) .nil .nil) .nil) (.node (q_120 P) .nil .nil)))) (.node (c_19 P) (.node (top.o_12 P) (.node (top.o_28 P) (.node (top.o_64 P) (.node (q_132 P) .nil .nil) .nil) (.node (top.o_99 P) (.node (subObj 30 P) .nil .nil) .nil)) (.node (top.o_48 P) (.node (top.o_80 P) (.node (subObj 14 P) .nil .nil) .nil) (.node (q_116 P) .nil .nil))) (.node (top.o_20 P) (.node (top.o_36 P) (.node (top.o_72 P) (.node (subObj 6 P) .nil .nil) .nil) (.node (top.o_107 P) (.node (subLast P) .nil .nil) .nil)) (.node (top.o_56 P) (.node (top.o_88 P) (.node (subObj 22 P) .nil .nil) .nil) (.node (q_124 P) .nil .nil))))) (.node (boot_o_6 P) (.node (boot_o_10 P) (.node (top.o_10 P) (.node (top.o_26 P) (.node (top.o_62 P) (.node (q_130 P) .nil .nil) .nil) (.node (top.o_97 P) (.node (subObj 28 P) .nil .nil) .nil)) (.node (top.o_46 P) (.node (top.o_78 P) (.node (subObj 12 P) .nil .nil) .nil) (.node (top.o_113 P) (.node (q_178 P) .nil .nil) .nil))) (.node (top.o_18 P) (.node (top.o_34 P) (.node (top.o_70 P) (.node (subObj 4 P) .nil .nil) .nil) (.node (top.o_105 P) (.node (subObj 36 P) .nil .nil) .nil)) (.node (top.o_54 P) (.node (top.o_86 P) (.node (subObj 20 P) .nil .nil) .nil) (.node (q_122 P) .nil .nil)))) (.node (top.o_4 P) (.node (top.o_14 P) (.node (top.o_30 P) (.node (top.o_66 P) (.node (bigObj P) .nil .nil) .nil) (.node (top.o_101 P) (.node (subObj 32 P) .nil .nil) .nil)) (.node (top.o_50 P) (.node (top.o_82 P) (.node (subObj 16 P) .nil .nil) .nil) (.node (q_118 P) .nil .nil))) (.node (top.o_22 P) (.node (top.o_38 P) (.node (top.o_74 P) (.node (subObj 8 P) .nil .nil) .nil) (.node (top.o_109 P) (.node (q_174 P) .nil .nil) .nil)) (.node (top.o_58 P) (.node (top.o_90 P) (.node (subObj 24 P) .nil .nil) .nil) (.node (q_126 P) .nil .nil)))))))
def S20 (w : World) (os : OsState) : SharedT := ⟨T20 w.params, 180, {}, ⟨[]⟩, {}, 2356, os⟩
def p20 : Pos := ⟨96, 0, 96, 8⟩
def q_180 (_ : Params) : Obj := { cls := .type "tuple", data := .seq #[] }
def q_181 (_ : Params) : Obj := { cls := .none, data := .fields #[] }
def q_182 (_ : Params) : Obj := { cls := .type "tuple", data := .seq #[.str "turn" 2359, .str "place" 2360] }
def q_183 (_ : Params) : Obj := { cls := .type "tuple", data := .seq #[] }
def q_184 (_ : Params) : Obj := { cls := .none, data := .func (fnd (stm 21) 0 .none .none 0) }
def q_185 (_ : Params) : Obj := { cls := .type "code", data := .fields #[.str "_law_gone" 2356, .str "_law_gone" 2357, .str "/claim/cut.py" 2358, .int 97 0, .int 1 0, .int 0 0, .int 0 0, .int 3 0, .ref 180, .bool true, .int 181 0, .ref 181, .none, .ref 182, .ref 183, .ref 184, .int 2361 0, .int 97 0, .str "/claim/cut.py" 2362] }
def q_186 (_ : Params) : Obj := { cls := .type "function", data := .func (fnd (stm 21) 3 (.str "law_pd0020_01" 2354) (.ref 185) 0) }
def c_21 (P : Params) : Obj := addCode 97 185 (c_19 P)
def m_21 (P : Params) : Obj := addKey P "_law_gone" 2363 (.ref 186) (m_20 P)
def T21 (P : Params) : BT := (.node (boot_o_0 P) (.node (boot_o_1 P) (.node (m_21 P) (.node (boot_o_7 P) (.node (top.o_7 P) (.node (top.o_23 P) (.node (top.o_59 P) (.node (q_127 P) .nil .nil) .nil) (.node (top.o_94 P) (.node (subObj 25 P) .nil .nil) .nil)) (.node (top.o_39 P) (.node (top.o_75 P) (.node (subObj 9 P) .nil .nil) .nil) (.node (top.o_110 P) (.node (q_175 P) .nil .nil) .nil))) (.node (top.o_15 P) (.node (top.o_31 P) (.node (top.o_67 P) (.node (subObj 1 P) .nil .nil) .nil) (.node (top.o_102 P) (.node (subObj 33 P) .nil .nil) .nil)) (.node (top.o_51 P) (.node (top.o_83 P) (.node (subObj 17 P) .nil .nil) .nil) (.node (q_119 P) (.node (q_183 P) .nil .nil) .nil)))) (.node (top.o_1 P) (.node (top.o_11 P) (.node (top.o_27 P) (.node (top.o_63 P) (.node (q_131 P) .nil .nil) .nil) (.node (top.o_98 P) (.node (subObj 29 P) .nil .nil) .nil)) (.node (top.o_47 P) (.node (top.o_79 P) (.node (subObj 13 P) .nil .nil) .nil) (.node (top.o_114 P) (.node (q_179 P) .nil .nil) .nil))) (.node (top.o_19 P) (.node (top.o_35 P) (.node (top.o_71 P) (.node (subObj 5 P) .nil .nil) .nil) (.node (top.o_106 P) (.node (subObj 37 P) .nil .nil) .nil)) (.node (top.o_55 P) (.node (top.o_87 P) (.node (subObj 21 P) .nil .nil) .nil) (.node (q_123 P) .nil .nil))))) (.node (boot_o_5 P) (.node (boot_o_9 P) (.node (top.o_9 P) (.node (top.o_25 P) (.node (top.o_61 P) (.node (q_129 P) .nil .nil) .nil) (.node (top.o_96 P) (.node (subObj 27 P) .nil .nil) .nil)) (.node (top.o_45 P) (.node (top.o_77 P) (.node (subObj 11 P) .nil .nil) .nil) (.node (top.o_112 P) (.node (q_177 P) .nil .nil) .nil))) (.node (top.o_17 P) (.node (top.o_33 P) (.node (top.o_69 P) (.node (subObj 3 P) .nil .nil) .nil) (.node (top.o_104 P) (.node (subObj 35 P) .nil .nil) .nil)) (.node (top.o_53 P) (.node (top.o_85 P) (.node (subObj 19 P) .nil .nil) .nil) (.node (q_121 P) (.node (q_185 P) .nil .nil) .nil)))) (.node (top.o_3 P) (.node (top.o_13 P) (.node (top.o_29 P) (.node (top.o_65 P) (.node (q_133 P) .nil .nil) .nil) (.node (top.o_100 P) (.node (subObj 31 P) .nil .nil) .nil)) (.node (top.o_49 P) (.node (top.o_81 P) (.node (subObj 15 P) .nil .nil) .nil) (.node (q_117 P) (.node (q_181 P) .nil .nil) .nil))) (.node (top.o_21 P) (.node (top.o_43 P) (.node (top.o_73 P) (.node (subObj 7 P) .nil .nil) .nil) (.node (top.o_108 P) (.node (q_173 P) .nil .nil) .nil)) (.node (top.o_57 P) (.node (top.o_89 P) (.node (subObj 23 P) .nil .nil) .nil) (.node (q_125 P) .nil .nil)))))) (.node (boot_o_2 P) (.node (boot_o_4 P) (.node (boot_o_8 P) (.node (top.o_8 P) (.node (top.o_24 P) (.node (top.o_60 P) (.node (q_128 P) .nil .nil) .nil) (.node (top.o_95 P) (.node (subObj 26 P) .nil .nil) .nil)) (.node (top.o_44 P) (.node (top.o_76 P) (.node (subObj 10 P) .nil .nil) .nil) (.node (top.o_111 P) (.node (q_176 P) .nil .nil) .nil))) (.node (top.o_16 P) (.node (top.o_32 P) (.node (top.o_68 P) (.node (subObj 2 P) .nil .nil) .nil) (.node (top.o_103 P) (.node (subObj 34 P) .nil .nil) .nil)) (.node (top.o_52 P) (.node (top.o_84 P) (.node (subObj 18 P) .nil .nil) .nil) (.node (q_120 P) (.node (q_184 P) .nil .nil) .nil)))) (.node (c_21 P) (.node (top.o_12 P) (.node (top.o_28 P) (.node (top.o_64 P) (.node (q_132 P) .nil .nil) .nil) (.node (top.o_99 P) (.node (subObj 30 P) .nil .nil) .nil)) (.node (top.o_48 P) (.node (top.o_80 P) (.node (subObj 14 P) .nil .nil) .nil) (.node (q_116 P) (.node (q_180 P) .nil .nil) .nil))) (.node (top.o_20 P) (.node (top.o_36 P) (.node (top.o_72 P) (.node (subObj 6 P) .nil .nil) .nil) (.node (top.o_107 P) (.node (subLast P) .nil .nil) .nil)) (.node (top.o_56 P) (.node (top.o_88 P) (.node (subObj 22 P) .nil .nil) .nil) (.node (q_124 P) .nil .nil))))) (.node (boot_o_6 P) (.node (boot_o_10 P) (.node (top.o_10 P) (.node (top.o_26 P) (.node (top.o_62 P) (.node (q_130 P) .nil .nil) .nil) (.node (top.o_97 P) (.node (subObj 28 P) .nil .nil) .nil)) (.node (top.o_46 P) (.node (top.o_78 P) (.node (subObj 12 P) .nil .nil) .nil) (.node (top.o_113 P) (.node (q_178 P) .nil .nil) .nil))) (.node (top.o_18 P) (.node (top.o_34 P) (.node (top.o_70 P) (.node (subObj 4 P) .nil .nil) .nil) (.node (top.o_105 P) (.node (subObj 36 P) .nil .nil) .nil)) (.node (top.o_54 P) (.node (top.o_86 P) (.node (subObj 20 P) .nil .nil) .nil) (.node (q_122 P) (.node (q_186 P) .nil .nil) .nil)))) (.node (top.o_4 P) (.node (top.o_14 P) (.node (top.o_30 P) (.node (top.o_66 P) (.node (bigObj P) .nil .nil) .nil) (.node (top.o_101 P) (.node (subObj 32 P) .nil .nil) .nil)) (.node (top.o_50 P) (.node (top.o_82 P) (.node (subObj 16 P) .nil .nil) .nil) (.node (q_118 P) (.node (q_182 P) .nil .nil) .nil))) (.node (top.o_22 P) (.node (top.o_38 P) (.node (top.o_74 P) (.node (subObj 8 P) .nil .nil) .nil) (.node (top.o_109 P) (.node (q_174 P) .nil .nil) .nil)) (.node (top.o_58 P) (.node (top.o_90 P) (.node (subObj 24 P) .nil .nil) .nil) (.node (q_126 P) .nil .nil)))))))
def S21 (w : World) (os : OsState) : SharedT := ⟨T21 w.params, 187, {}, ⟨[]⟩, {}, 2364, os⟩
def p21 : Pos := ⟨97, 0, 99, 106⟩
def q_187 (_ : Params) : Obj := { cls := .type "tuple", data := .seq #[] }
def q_188 (_ : Params) : Obj := { cls := .none, data := .fields #[] }
def q_189 (_ : Params) : Obj := { cls := .type "tuple", data := .seq #[.str "turn" 2367, .str "code" 2368, .str "plain" 2369] }
def q_190 (_ : Params) : Obj := { cls := .type "tuple", data := .seq #[] }
def q_191 (_ : Params) : Obj := { cls := .none, data := .func (fnd (stm 22) 0 .none .none 0) }
def q_192 (_ : Params) : Obj := { cls := .type "code", data := .fields #[.str "_law_special" 2364, .str "_law_special" 2365, .str "/claim/cut.py" 2366, .int 100 0, .int 1 0, .int 0 0, .int 0 0, .int 3 0, .ref 187, .bool true, .int 181 0, .ref 188, .none, .ref 189, .ref 190, .ref 191, .int 2370 0, .int 100 0, .str "/claim/cut.py" 2371] }
def q_193 (_ : Params) : Obj := { cls := .type "function", data := .func (fnd (stm 22) 3 (.str "law_pd0020_01" 2354) (.ref 192) 0) }
def c_22 (P : Params) : Obj := addCode 100 192 (c_21 P)
def m_22 (P : Params) : Obj := addKey P "_law_special" 2372 (.ref 193) (m_21 P)
def T22 (P : Params) : BT := (.node (boot_o_0 P) (.node (boot_o_1 P) (.node (m_22 P) (.node (boot_o_7 P) (.node (top.o_7 P) (.node (top.o_23 P) (.node (top.o_59 P) (.node (q_127 P) .nil .nil) (.node (q_191 P) .nil .nil)) (.node (top.o_94 P) (.node (subObj 25 P) .nil .nil) .nil)) (.node (top.o_39 P) (.node (top.o_75 P) (.node (subObj 9 P) .nil .nil) .nil) (.node (top.o_110 P) (.node (q_175 P) .nil .nil) .nil))) (.node (top.o_15 P) (.node (top.o_31 P) (.node (top.o_67 P) (.node (subObj 1 P) .nil .nil) .nil) (.node (top.o_102 P) (.node (subObj 33 P) .nil .nil) .nil)) (.node (top.o_51 P) (.node (top.o_83 P) (.node (subObj 17 P) .nil .nil) .nil) (.node (q_119 P) (.node (q_183 P) .nil .nil) .nil)))) (.node (top.o_1 P) (.node (top.o_11 P) (.node (top.o_27 P) (.node (top.o_63 P) (.node (q_131 P) .nil .nil) .nil) (.node (top.o_98 P) (.node (subObj 29 P) .nil .nil) .nil)) (.node (top.o_47 P) (.node (top.o_79 P) (.node (subObj 13 P) .nil .nil) .nil) (.node (top.o_114 P) (.node (q_179 P) .nil .nil) .nil))) (.node (top.o_19 P) (.node (top.o_35 P) (.node (top.o_71 P) (.node (subObj 5 P) .nil .nil) .nil) (.node (top.o_106 P) (.node (subObj 37 P) .nil .nil) .nil)) (.node (top.o_55 P) (.node (top.o_87 P) (.node (subObj 21 P) .nil .nil) .nil) (.node (q_123 P) (.node (q_187 P) .nil .nil) .nil))))) (.node (boot_o_5 P) (.node (boot_o_9 P) (.node (top.o_9 P) (.node (top.o_25 P) (.node (top.o_61 P) (.node (q_129 P) .nil .nil) (.node (q_193 P) .nil .nil)) (.node (top.o_96 P) (.node (subObj 27 P) .nil .nil) .nil)) (.node (top.o_45 P) (.node (top.o_77 P) (.node (subObj 11 P) .nil .nil) .nil) (.node (top.o_112 P) (.node (q_177 P) .nil .nil) .nil))) (.node (top.o_17 P) (.node (top.o_33 P) (.node (top.o_69 P) (.node (subObj 3 P) .nil .nil) .nil) (.node (top.o_104 P) (.node (subObj 35 P) .nil .nil) .nil)) (.node (top.o_53 P) (.node (top.o_85 P) (.node (subObj 19 P) .nil .nil) .nil) (.node (q_121 P) (.node (q_185 P) .nil .nil) .nil)))) (.node (top.o_3 P) (.node (top.o_13 P) (.node (top.o_29 P) (.node (top.o_65 P) (.node (q_133 P) .nil .nil) .nil) (.node (top.o_100 P) (.node (subObj 31 P) .nil .nil) .nil)) (.node (top.o_49 P) (.node (top.o_81 P) (.node (subObj 15 P) .nil .nil) .nil) (.node (q_117 P) (.node (q_181 P) .nil .nil) .nil))) (.node (top.o_21 P) (.node (top.o_43 P) (.node (top.o_73 P) (.node (subObj 7 P) .nil .nil) .nil) (.node (top.o_108 P) (.node (q_173 P) .nil .nil) .nil)) (.node (top.o_57 P) (.node (top.o_89 P) (.node (subObj 23 P) .nil .nil) .nil) (.node (q_125 P) (.node (q_189 P) .nil .nil) .nil)))))) (.node (boot_o_2 P) (.node (boot_o_4 P) (.node (boot_o_8 P) (.node (top.o_8 P) (.node (top.o_24 P) (.node (top.o_60 P) (.node (q_128 P) .nil .nil) (.node (q_192 P) .nil .nil)) (.node (top.o_95 P) (.node (subObj 26 P) .nil .nil) .nil)) (.node (top.o_44 P) (.node (top.o_76 P) (.node (subObj 10 P) .nil .nil) .nil) (.node (top.o_111 P) (.node (q_176 P) .nil .nil) .nil))) (.node (top.o_16 P) (.node (top.o_32 P) (.node (top.o_68 P) (.node (subObj 2 P) .nil .nil) .nil) (.node (top.o_103 P) (.node (subObj 34 P) .nil .nil) .nil)) (.node (top.o_52 P) (.node (top.o_84 P) (.node (subObj 18 P) .nil .nil) .nil) (.node (q_120 P) (.node (q_184 P) .nil .nil) .nil)))) (.node (c_22 P) (.node (top.o_12 P) (.node (top.o_28 P) (.node (top.o_64 P) (.node (q_132 P) .nil .nil) .nil) (.node (top.o_99 P) (.node (subObj 30 P) .nil .nil) .nil)) (.node (top.o_48 P) (.node (top.o_80 P) (.node (subObj 14 P) .nil .nil) .nil) (.node (q_116 P) (.node (q_180 P) .nil .nil) .nil))) (.node (top.o_20 P) (.node (top.o_36 P) (.node (top.o_72 P) (.node (subObj 6 P) .nil .nil) .nil) (.node (top.o_107 P) (.node (subLast P) .nil .nil) .nil)) (.node (top.o_56 P) (.node (top.o_88 P) (.node (subObj 22 P) .nil .nil) .nil) (.node (q_124 P) (.node (q_188 P) .nil .nil) .nil))))) (.node (boot_o_6 P) (.node (boot_o_10 P) (.node (top.o_10 P) (.node (top.o_26 P) (.node (top.o_62 P) (.node (q_130 P) .nil .nil) .nil) (.node (top.o_97 P) (.node (subObj 28 P) .nil .nil) .nil)) (.node (top.o_46 P) (.node (top.o_78 P) (.node (subObj 12 P) .nil .nil) .nil) (.node (top.o_113 P) (.node (q_178 P) .nil .nil) .nil))) (.node (top.o_18 P) (.node (top.o_34 P) (.node (top.o_70 P) (.node (subObj 4 P) .nil .nil) .nil) (.node (top.o_105 P) (.node (subObj 36 P) .nil .nil) .nil)) (.node (top.o_54 P) (.node (top.o_86 P) (.node (subObj 20 P) .nil .nil) .nil) (.node (q_122 P) (.node (q_186 P) .nil .nil) .nil)))) (.node (top.o_4 P) (.node (top.o_14 P) (.node (top.o_30 P) (.node (top.o_66 P) (.node (bigObj P) .nil .nil) .nil) (.node (top.o_101 P) (.node (subObj 32 P) .nil .nil) .nil)) (.node (top.o_50 P) (.node (top.o_82 P) (.node (subObj 16 P) .nil .nil) .nil) (.node (q_118 P) (.node (q_182 P) .nil .nil) .nil))) (.node (top.o_22 P) (.node (top.o_38 P) (.node (top.o_74 P) (.node (subObj 8 P) .nil .nil) .nil) (.node (top.o_109 P) (.node (q_174 P) .nil .nil) .nil)) (.node (top.o_58 P) (.node (top.o_90 P) (.node (subObj 24 P) .nil .nil) .nil) (.node (q_126 P) (.node (q_190 P) .nil .nil) .nil)))))))
def S22 (w : World) (os : OsState) : SharedT := ⟨T22 w.params, 194, {}, ⟨[]⟩, {}, 2373, os⟩
def p22 : Pos := ⟨100, 0, 102, 29⟩
def q_194 (_ : Params) : Obj := { cls := .type "tuple", data := .seq #[] }
def q_195 (_ : Params) : Obj := { cls := .none, data := .fields #[] }
def q_196 (_ : Params) : Obj := { cls := .type "tuple", data := .seq #[.str "number" 2376, .str "written" 2377, .str "plain" 2378, .str "figure" 2379, .str "turn" 2380, .str "sign" 2381, .str "meant" 2382] }
def q_197 (_ : Params) : Obj := { cls := .type "tuple", data := .seq #[] }
def q_198 (_ : Params) : Obj := { cls := .none, data := .func (fnd (stm 23) 0 .none .none 0) }
def q_199 (_ : Params) : Obj := { cls := .type "code", data := .fields #[.str "_law_part" 2373, .str "_law_part" 2374, .str "/claim/cut.py" 2375, .int 103 0, .int 1 0, .int 0 0, .int 0 0, .int 3 0, .ref 194, .bool true, .int 181 0, .ref 195, .none, .ref 196, .ref 197, .ref 198, .int 2383 0, .int 103 0, .str "/claim/cut.py" 2384] }
def q_200 (_ : Params) : Obj := { cls := .type "function", data := .func (fnd (stm 23) 3 (.str "law_pd0020_01" 2354) (.ref 199) 0) }
def c_23 (P : Params) : Obj := addCode 103 199 (c_22 P)
def m_23 (P : Params) : Obj := addKey P "_law_part" 2385 (.ref 200) (m_22 P)
def T23 (P : Params) : BT := (.node (boot_o_0 P) (.node (boot_o_1 P) (.node (m_23 P) (.node (boot_o_7 P) (.node (top.o_7 P) (.node (top.o_23 P) (.node (top.o_59 P) (.node (q_127 P) .nil .nil) (.node (q_191 P) .nil .nil)) (.node (top.o_94 P) (.node (subObj 25 P) .nil .nil) .nil)) (.node (top.o_39 P) (.node (top.o_75 P) (.node (subObj 9 P) .nil .nil) .nil) (.node (top.o_110 P) (.node (q_175 P) .nil .nil) .nil))) (.node (top.o_15 P) (.node (top.o_31 P) (.node (top.o_67 P) (.node (subObj 1 P) .nil .nil) (.node (q_199 P) .nil .nil)) (.node (top.o_102 P) (.node (subObj 33 P) .nil .nil) .nil)) (.node (top.o_51 P) (.node (top.o_83 P) (.node (subObj 17 P) .nil .nil) .nil) (.node (q_119 P) (.node (q_183 P) .nil .nil) .nil)))) (.node (top.o_1 P) (.node (top.o_11 P) (.node (top.o_27 P) (.node (top.o_63 P) (.node (q_131 P) .nil .nil) (.node (q_195 P) .nil .nil)) (.node (top.o_98 P) (.node (subObj 29 P) .nil .nil) .nil)) (.node (top.o_47 P) (.node (top.o_79 P) (.node (subObj 13 P) .nil .nil) .nil) (.node (top.o_114 P) (.node (q_179 P) .nil .nil) .nil))) (.node (top.o_19 P) (.node (top.o_35 P) (.node (top.o_71 P) (.node (subObj 5 P) .nil .nil) .nil) (.node (top.o_106 P) (.node (subObj 37 P) .nil .nil) .nil)) (.node (top.o_55 P) (.node (top.o_87 P) (.node (subObj 21 P) .nil .nil) .nil) (.node (q_123 P) (.node (q_187 P) .nil .nil) .nil))))) (.node (boot_o_5 P) (.node (boot_o_9 P) (.node (top.o_9 P) (.node (top.o_25 P) (.node (top.o_61 P) (.node (q_129 P) .nil .nil) (.node (q_193 P) .nil .nil)) (.node (top.o_96 P) (.node (subObj 27 P) .nil .nil) .nil)) (.node (top.o_45 P) (.node (top.o_77 P) (.node (subObj 11 P) .nil .nil) .nil) (.node (top.o_112 P) (.node (q_177 P) .nil .nil) .nil))) (.node (top.o_17 P) (.node (top.o_33 P) (.node (top.o_69 P) (.node (subObj 3 P) .nil .nil) .nil) (.node (top.o_104 P) (.node (subObj 35 P) .nil .nil) .nil)) (.node (top.o_53 P) (.node (top.o_85 P) (.node (subObj 19 P) .nil .nil) .nil) (.node (q_121 P) (.node (q_185 P) .nil .nil) .nil)))) (.node (top.o_3 P) (.node (top.o_13 P) (.node (top.o_29 P) (.node (top.o_65 P) (.node (q_133 P) .nil .nil) (.node (q_197 P) .nil .nil)) (.node (top.o_100 P) (.node (subObj 31 P) .nil .nil) .nil)) (.node (top.o_49 P) (.node (top.o_81 P) (.node (subObj 15 P) .nil .nil) .nil) (.node (q_117 P) (.node (q_181 P) .nil .nil) .nil))) (.node (top.o_21 P) (.node (top.o_43 P) (.node (top.o_73 P) (.node (subObj 7 P) .nil .nil) .nil) (.node (top.o_108 P) (.node (q_173 P) .nil .nil) .nil)) (.node (top.o_57 P) (.node (top.o_89 P) (.node (subObj 23 P) .nil .nil) .nil) (.node (q_125 P) (.node (q_189 P) .nil .nil) .nil)))))) (.node (boot_o_2 P) (.node (boot_o_4 P) (.node (boot_o_8 P) (.node (top.o_8 P) (.node (top.o_24 P) (.node (top.o_60 P) (.node (q_128 P) .nil .nil) (.node (q_192 P) .nil .nil)) (.node (top.o_95 P) (.node (subObj 26 P) .nil .nil) .nil)) (.node (top.o_44 P) (.node (top.o_76 P) (.node (subObj 10 P) .nil .nil) .nil) (.node (top.o_111 P) (.node (q_176 P) .nil .nil) .nil))) (.node (top.o_16 P) (.node (top.o_32 P) (.node (top.o_68 P) (.node (subObj 2 P) .nil .nil) (.node (q_200 P) .nil .nil)) (.node (top.o_103 P) (.node (subObj 34 P) .nil .nil) .nil)) (.node (top.o_52 P) (.node (top.o_84 P) (.node (subObj 18 P) .nil .nil) .nil) (.node (q_120 P) (.node (q_184 P) .nil .nil) .nil)))) (.node (c_23 P) (.node (top.o_12 P) (.node (top.o_28 P) (.node (top.o_64 P) (.node (q_132 P) .nil .nil) (.node (q_196 P) .nil .nil)) (.node (top.o_99 P) (.node (subObj 30 P) .nil .nil) .nil)) (.node (top.o_48 P) (.node (top.o_80 P) (.node (subObj 14 P) .nil .nil) .nil) (.node (q_116 P) (.node (q_180 P) .nil .nil) .nil))) (.node (top.o_20 P) (.node (top.o_36 P) (.node (top.o_72 P) (.node (subObj 6 P) .nil .nil) .nil) (.node (top.o_107 P) (.node (subLast P) .nil .nil) .nil)) (.node (top.o_56 P) (.node (top.o_88 P) (.node (subObj 22 P) .nil .nil) .nil) (.node (q_124 P) (.node (q_188 P) .nil .nil) .nil))))) (.node (boot_o_6 P) (.node (boot_o_10 P) (.node (top.o_10 P) (.node (top.o_26 P) (.node (top.o_62 P) (.node (q_130 P) .nil .nil) (.node (q_194 P) .nil .nil)) (.node (top.o_97 P) (.node (subObj 28 P) .nil .nil) .nil)) (.node (top.o_46 P) (.node (top.o_78 P) (.node (subObj 12 P) .nil .nil) .nil) (.node (top.o_113 P) (.node (q_178 P) .nil .nil) .nil))) (.node (top.o_18 P) (.node (top.o_34 P) (.node (top.o_70 P) (.node (subObj 4 P) .nil .nil) .nil) (.node (top.o_105 P) (.node (subObj 36 P) .nil .nil) .nil)) (.node (top.o_54 P) (.node (top.o_86 P) (.node (subObj 20 P) .nil .nil) .nil) (.node (q_122 P) (.node (q_186 P) .nil .nil) .nil)))) (.node (top.o_4 P) (.node (top.o_14 P) (.node (top.o_30 P) (.node (top.o_66 P) (.node (bigObj P) .nil .nil) (.node (q_198 P) .nil .nil)) (.node (top.o_101 P) (.node (subObj 32 P) .nil .nil) .nil)) (.node (top.o_50 P) (.node (top.o_82 P) (.node (subObj 16 P) .nil .nil) .nil) (.node (q_118 P) (.node (q_182 P) .nil .nil) .nil))) (.node (top.o_22 P) (.node (top.o_38 P) (.node (top.o_74 P) (.node (subObj 8 P) .nil .nil) .nil) (.node (top.o_109 P) (.node (q_174 P) .nil .nil) .nil)) (.node (top.o_58 P) (.node (top.o_90 P) (.node (subObj 24 P) .nil .nil) .nil) (.node (q_126 P) (.node (q_190 P) .nil .nil) .nil)))))))
def S23 (w : World) (os : OsState) : SharedT := ⟨T23 w.params, 201, {}, ⟨[]⟩, {}, 2386, os⟩
def p23 : Pos := ⟨103, 0, 121, 27⟩
def q_201 (_ : Params) : Obj := { cls := .type "tuple", data := .seq #[] }
def q_202 (_ : Params) : Obj := { cls := .none, data := .fields #[] }
def q_203 (_ : Params) : Obj := { cls := .none, data := .func (fnd (stm 24) 0 .none .none 0) }
def q_204 (_ : Params) : Obj := { cls := .type "code", data := .fields #[.str "_law_prepared" 2386, .str "_law_prepared" 2387, .str "/claim/cut.py" 2388, .int 122 0, .int 1 0, .int 0 0, .int 0 0, .int 3 0, .ref 201, .bool true, .int 181 0, .ref 202, .none, .none, .none, .ref 203, .int 2389 0, .int 122 0, .str "/claim/cut.py" 2390] }
def q_205 (_ : Params) : Obj := { cls := .type "function", data := .func (fnd (stm 24) 3 (.str "law_pd0020_01" 2354) (.ref 204) 0) }
def c_24 (P : Params) : Obj := addCode 122 204 (c_23 P)
def m_24 (P : Params) : Obj := addKey P "_law_prepared" 2391 (.ref 205) (m_23 P)
def T24 (P : Params) : BT := (.node (boot_o_0 P) (.node (boot_o_1 P) (.node (m_24 P) (.node (boot_o_7 P) (.node (top.o_7 P) (.node (top.o_23 P) (.node (top.o_59 P) (.node (q_127 P) .nil .nil) (.node (q_191 P) .nil .nil)) (.node (top.o_94 P) (.node (subObj 25 P) .nil .nil) .nil)) (.node (top.o_39 P) (.node (top.o_75 P) (.node (subObj 9 P) .nil .nil) .nil) (.node (top.o_110 P) (.node (q_175 P) .nil .nil) .nil))) (.node (top.o_15 P) (.node (top.o_31 P) (.node (top.o_67 P) (.node (subObj 1 P) .nil .nil) (.node (q_199 P) .nil .nil)) (.node (top.o_102 P) (.node (subObj 33 P) .nil .nil) .nil)) (.node (top.o_51 P) (.node (top.o_83 P) (.node (subObj 17 P) .nil .nil) .nil) (.node (q_119 P) (.node (q_183 P) .nil .nil) .nil)))) (.node (top.o_1 P) (.node (top.o_11 P) (.node (top.o_27 P) (.node (top.o_63 P) (.node (q_131 P) .nil .nil) (.node (q_195 P) .nil .nil)) (.node (top.o_98 P) (.node (subObj 29 P) .nil .nil) .nil)) (.node (top.o_47 P) (.node (top.o_79 P) (.node (subObj 13 P) .nil .nil) .nil) (.node (top.o_114 P) (.node (q_179 P) .nil .nil) .nil))) (.node (top.o_19 P) (.node (top.o_35 P) (.node (top.o_71 P) (.node (subObj 5 P) .nil .nil) (.node (q_203 P) .nil .nil)) (.node (top.o_106 P) (.node (subObj 37 P) .nil .nil) .nil)) (.node (top.o_55 P) (.node (top.o_87 P) (.node (subObj 21 P) .nil .nil) .nil) (.node (q_123 P) (.node (q_187 P) .nil .nil) .nil))))) (.node (boot_o_5 P) (.node (boot_o_9 P) (.node (top.o_9 P) (.node (top.o_25 P) (.node (top.o_61 P) (.node (q_129 P) .nil .nil) (.node (q_193 P) .nil .nil)) (.node (top.o_96 P) (.node (subObj 27 P) .nil .nil) .nil)) (.node (top.o_45 P) (.node (top.o_77 P) (.node (subObj 11 P) .nil .nil) .nil) (.node (top.o_112 P) (.node (q_177 P) .nil .nil) .nil))) (.node (top.o_17 P) (.node (top.o_33 P) (.node (top.o_69 P) (.node (subObj 3 P) .nil .nil) (.node (q_201 P) .nil .nil)) (.node (top.o_104 P) (.node (subObj 35 P) .nil .nil) .nil)) (.node (top.o_53 P) (.node (top.o_85 P) (.node (subObj 19 P) .nil .nil) .nil) (.node (q_121 P) (.node (q_185 P) .nil .nil) .nil)))) (.node (top.o_3 P) (.node (top.o_13 P) (.node (top.o_29 P) (.node (top.o_65 P) (.node (q_133 P) .nil .nil) (.node (q_197 P) .nil .nil)) (.node (top.o_100 P) (.node (subObj 31 P) .nil .nil) .nil)) (.node (top.o_49 P) (.node (top.o_81 P) (.node (subObj 15 P) .nil .nil) .nil) (.node (q_117 P) (.node (q_181 P) .nil .nil) .nil))) (.node (top.o_21 P) (.node (top.o_43 P) (.node (top.o_73 P) (.node (subObj 7 P) .nil .nil) (.node (q_205 P) .nil .nil)) (.node (top.o_108 P) (.node (q_173 P) .nil .nil) .nil)) (.node (top.o_57 P) (.node (top.o_89 P) (.node (subObj 23 P) .nil .nil) .nil) (.node (q_125 P) (.node (q_189 P) .nil .nil) .nil)))))) (.node (boot_o_2 P) (.node (boot_o_4 P) (.node (boot_o_8 P) (.node (top.o_8 P) (.node (top.o_24 P) (.node (top.o_60 P) (.node (q_128 P) .nil .nil) (.node (q_192 P) .nil .nil)) (.node (top.o_95 P) (.node (subObj 26 P) .nil .nil) .nil)) (.node (top.o_44 P) (.node (top.o_76 P) (.node (subObj 10 P) .nil .nil) .nil) (.node (top.o_111 P) (.node (q_176 P) .nil .nil) .nil))) (.node (top.o_16 P) (.node (top.o_32 P) (.node (top.o_68 P) (.node (subObj 2 P) .nil .nil) (.node (q_200 P) .nil .nil)) (.node (top.o_103 P) (.node (subObj 34 P) .nil .nil) .nil)) (.node (top.o_52 P) (.node (top.o_84 P) (.node (subObj 18 P) .nil .nil) .nil) (.node (q_120 P) (.node (q_184 P) .nil .nil) .nil)))) (.node (c_24 P) (.node (top.o_12 P) (.node (top.o_28 P) (.node (top.o_64 P) (.node (q_132 P) .nil .nil) (.node (q_196 P) .nil .nil)) (.node (top.o_99 P) (.node (subObj 30 P) .nil .nil) .nil)) (.node (top.o_48 P) (.node (top.o_80 P) (.node (subObj 14 P) .nil .nil) .nil) (.node (q_116 P) (.node (q_180 P) .nil .nil) .nil))) (.node (top.o_20 P) (.node (top.o_36 P) (.node (top.o_72 P) (.node (subObj 6 P) .nil .nil) (.node (q_204 P) .nil .nil)) (.node (top.o_107 P) (.node (subLast P) .nil .nil) .nil)) (.node (top.o_56 P) (.node (top.o_88 P) (.node (subObj 22 P) .nil .nil) .nil) (.node (q_124 P) (.node (q_188 P) .nil .nil) .nil))))) (.node (boot_o_6 P) (.node (boot_o_10 P) (.node (top.o_10 P) (.node (top.o_26 P) (.node (top.o_62 P) (.node (q_130 P) .nil .nil) (.node (q_194 P) .nil .nil)) (.node (top.o_97 P) (.node (subObj 28 P) .nil .nil) .nil)) (.node (top.o_46 P) (.node (top.o_78 P) (.node (subObj 12 P) .nil .nil) .nil) (.node (top.o_113 P) (.node (q_178 P) .nil .nil) .nil))) (.node (top.o_18 P) (.node (top.o_34 P) (.node (top.o_70 P) (.node (subObj 4 P) .nil .nil) (.node (q_202 P) .nil .nil)) (.node (top.o_105 P) (.node (subObj 36 P) .nil .nil) .nil)) (.node (top.o_54 P) (.node (top.o_86 P) (.node (subObj 20 P) .nil .nil) .nil) (.node (q_122 P) (.node (q_186 P) .nil .nil) .nil)))) (.node (top.o_4 P) (.node (top.o_14 P) (.node (top.o_30 P) (.node (top.o_66 P) (.node (bigObj P) .nil .nil) (.node (q_198 P) .nil .nil)) (.node (top.o_101 P) (.node (subObj 32 P) .nil .nil) .nil)) (.node (top.o_50 P) (.node (top.o_82 P) (.node (subObj 16 P) .nil .nil) .nil) (.node (q_118 P) (.node (q_182 P) .nil .nil) .nil))) (.node (top.o_22 P) (.node (top.o_38 P) (.node (top.o_74 P) (.node (subObj 8 P) .nil .nil) .nil) (.node (top.o_109 P) (.node (q_174 P) .nil .nil) .nil)) (.node (top.o_58 P) (.node (top.o_90 P) (.node (subObj 24 P) .nil .nil) .nil) (.node (q_126 P) (.node (q_190 P) .nil .nil) .nil)))))))
def S24 (w : World) (os : OsState) : SharedT := ⟨T24 w.params, 206, {}, ⟨[]⟩, {}, 2392, os⟩
def p24 : Pos := ⟨122, 0, 123, 82⟩
def q_206 (_ : Params) : Obj := { cls := .type "tuple", data := .seq #[] }
def q_207 (_ : Params) : Obj := { cls := .none, data := .fields #[] }
def q_208 (_ : Params) : Obj := { cls := .type "tuple", data := .seq #[.str "row" 2395, .str "judged" 2396, .str "told" 2397, .str "ahead" 2398, .str "meant" 2399, .str "gap" 2400] }
def q_209 (_ : Params) : Obj := { cls := .type "tuple", data := .seq #[] }
def q_210 (_ : Params) : Obj := { cls := .none, data := .func (fnd (stm 25) 0 .none .none 0) }
def q_211 (_ : Params) : Obj := { cls := .type "code", data := .fields #[.str "_law_hung" 2392, .str "_law_hung" 2393, .str "/claim/cut.py" 2394, .int 124 0, .int 1 0, .int 0 0, .int 0 0, .int 3 0, .ref 206, .bool true, .int 181 0, .ref 207, .none, .ref 208, .ref 209, .ref 210, .int 2401 0, .int 124 0, .str "/claim/cut.py" 2402] }
def q_212 (_ : Params) : Obj := { cls := .type "function", data := .func (fnd (stm 25) 3 (.str "law_pd0020_01" 2354) (.ref 211) 0) }
def c_25 (P : Params) : Obj := addCode 124 211 (c_24 P)
def m_25 (P : Params) : Obj := addKey P "_law_hung" 2403 (.ref 212) (m_24 P)
def T25 (P : Params) : BT := (.node (boot_o_0 P) (.node (boot_o_1 P) (.node (m_25 P) (.node (boot_o_7 P) (.node (top.o_7 P) (.node (top.o_23 P) (.node (top.o_59 P) (.node (q_127 P) .nil .nil) (.node (q_191 P) .nil .nil)) (.node (top.o_94 P) (.node (subObj 25 P) .nil .nil) .nil)) (.node (top.o_39 P) (.node (top.o_75 P) (.node (subObj 9 P) .nil .nil) (.node (q_207 P) .nil .nil)) (.node (top.o_110 P) (.node (q_175 P) .nil .nil) .nil))) (.node (top.o_15 P) (.node (top.o_31 P) (.node (top.o_67 P) (.node (subObj 1 P) .nil .nil) (.node (q_199 P) .nil .nil)) (.node (top.o_102 P) (.node (subObj 33 P) .nil .nil) .nil)) (.node (top.o_51 P) (.node (top.o_83 P) (.node (subObj 17 P) .nil .nil) .nil) (.node (q_119 P) (.node (q_183 P) .nil .nil) .nil)))) (.node (top.o_1 P) (.node (top.o_11 P) (.node (top.o_27 P) (.node (top.o_63 P) (.node (q_131 P) .nil .nil) (.node (q_195 P) .nil .nil)) (.node (top.o_98 P) (.node (subObj 29 P) .nil .nil) .nil)) (.node (top.o_47 P) (.node (top.o_79 P) (.node (subObj 13 P) .nil .nil) (.node (q_211 P) .nil .nil)) (.node (top.o_114 P) (.node (q_179 P) .nil .nil) .nil))) (.node (top.o_19 P) (.node (top.o_35 P) (.node (top.o_71 P) (.node (subObj 5 P) .nil .nil) (.node (q_203 P) .nil .nil)) (.node (top.o_106 P) (.node (subObj 37 P) .nil .nil) .nil)) (.node (top.o_55 P) (.node (top.o_87 P) (.node (subObj 21 P) .nil .nil) .nil) (.node (q_123 P) (.node (q_187 P) .nil .nil) .nil))))) (.node (boot_o_5 P) (.node (boot_o_9 P) (.node (top.o_9 P) (.node (top.o_25 P) (.node (top.o_61 P) (.node (q_129 P) .nil .nil) (.node (q_193 P) .nil .nil)) (.node (top.o_96 P) (.node (subObj 27 P) .nil .nil) .nil)) (.node (top.o_45 P) (.node (top.o_77 P) (.node (subObj 11 P) .nil .nil) (.node (q_209 P) .nil .nil)) (.node (top.o_112 P) (.node (q_177 P) .nil .nil) .nil))) (.node (top.o_17 P) (.node (top.o_33 P) (.node (top.o_69 P) (.node (subObj 3 P) .nil .nil) (.node (q_201 P) .nil .nil)) (.node (top.o_104 P) (.node (subObj 35 P) .nil .nil) .nil)) (.node (top.o_53 P) (.node (top.o_85 P) (.node (subObj 19 P) .nil .nil) .nil) (.node (q_121 P) (.node (q_185 P) .nil .nil) .nil)))) (.node (top.o_3 P) (.node (top.o_13 P) (.node (top.o_29 P) (.node (top.o_65 P) (.node (q_133 P) .nil .nil) (.node (q_197 P) .nil .nil)) (.node (top.o_100 P) (.node (subObj 31 P) .nil .nil) .nil)) (.node (top.o_49 P) (.node (top.o_81 P) (.node (subObj 15 P) .nil .nil) .nil) (.node (q_117 P) (.node (q_181 P) .nil .nil) .nil))) (.node (top.o_21 P) (.node (top.o_43 P) (.node (top.o_73 P) (.node (subObj 7 P) .nil .nil) (.node (q_205 P) .nil .nil)) (.node (top.o_108 P) (.node (q_173 P) .nil .nil) .nil)) (.node (top.o_57 P) (.node (top.o_89 P) (.node (subObj 23 P) .nil .nil) .nil) (.node (q_125 P) (.node (q_189 P) .nil .nil) .nil)))))) (.node (boot_o_2 P) (.node (boot_o_4 P) (.node (boot_o_8 P) (.node (top.o_8 P) (.node (top.o_24 P) (.node (top.o_60 P) (.node (q_128 P) .nil .nil) (.node (q_192 P) .nil .nil)) (.node (top.o_95 P) (.node (subObj 26 P) .nil .nil) .nil)) (.node (top.o_44 P) (.node (top.o_76 P) (.node (subObj 10 P) .nil .nil) (.node (q_208 P) .nil .nil)) (.node (top.o_111 P) (.node (q_176 P) .nil .nil) .nil))) (.node (top.o_16 P) (.node (top.o_32 P) (.node (top.o_68 P) (.node (subObj 2 P) .nil .nil) (.node (q_200 P) .nil .nil)) (.node (top.o_103 P) (.node (subObj 34 P) .nil .nil) .nil)) (.node (top.o_52 P) (.node (top.o_84 P) (.node (subObj 18 P) .nil .nil) .nil) (.node (q_120 P) (.node (q_184 P) .nil .nil) .nil)))) (.node (c_25 P) (.node (top.o_12 P) (.node (top.o_28 P) (.node (top.o_64 P) (.node (q_132 P) .nil .nil) (.node (q_196 P) .nil .nil)) (.node (top.o_99 P) (.node (subObj 30 P) .nil .nil) .nil)) (.node (top.o_48 P) (.node (top.o_80 P) (.node (subObj 14 P) .nil .nil) (.node (q_212 P) .nil .nil)) (.node (q_116 P) (.node (q_180 P) .nil .nil) .nil))) (.node (top.o_20 P) (.node (top.o_36 P) (.node (top.o_72 P) (.node (subObj 6 P) .nil .nil) (.node (q_204 P) .nil .nil)) (.node (top.o_107 P) (.node (subLast P) .nil .nil) .nil)) (.node (top.o_56 P) (.node (top.o_88 P) (.node (subObj 22 P) .nil .nil) .nil) (.node (q_124 P) (.node (q_188 P) .nil .nil) .nil))))) (.node (boot_o_6 P) (.node (boot_o_10 P) (.node (top.o_10 P) (.node (top.o_26 P) (.node (top.o_62 P) (.node (q_130 P) .nil .nil) (.node (q_194 P) .nil .nil)) (.node (top.o_97 P) (.node (subObj 28 P) .nil .nil) .nil)) (.node (top.o_46 P) (.node (top.o_78 P) (.node (subObj 12 P) .nil .nil) (.node (q_210 P) .nil .nil)) (.node (top.o_113 P) (.node (q_178 P) .nil .nil) .nil))) (.node (top.o_18 P) (.node (top.o_34 P) (.node (top.o_70 P) (.node (subObj 4 P) .nil .nil) (.node (q_202 P) .nil .nil)) (.node (top.o_105 P) (.node (subObj 36 P) .nil .nil) .nil)) (.node (top.o_54 P) (.node (top.o_86 P) (.node (subObj 20 P) .nil .nil) .nil) (.node (q_122 P) (.node (q_186 P) .nil .nil) .nil)))) (.node (top.o_4 P) (.node (top.o_14 P) (.node (top.o_30 P) (.node (top.o_66 P) (.node (bigObj P) .nil .nil) (.node (q_198 P) .nil .nil)) (.node (top.o_101 P) (.node (subObj 32 P) .nil .nil) .nil)) (.node (top.o_50 P) (.node (top.o_82 P) (.node (subObj 16 P) .nil .nil) .nil) (.node (q_118 P) (.node (q_182 P) .nil .nil) .nil))) (.node (top.o_22 P) (.node (top.o_38 P) (.node (top.o_74 P) (.node (subObj 8 P) .nil .nil) (.node (q_206 P) .nil .nil)) (.node (top.o_109 P) (.node (q_174 P) .nil .nil) .nil)) (.node (top.o_58 P) (.node (top.o_90 P) (.node (subObj 24 P) .nil .nil) .nil) (.node (q_126 P) (.node (q_190 P) .nil .nil) .nil)))))))
def S25 (w : World) (os : OsState) : SharedT := ⟨T25 w.params, 213, {}, ⟨[]⟩, {}, 2404, os⟩
def p25 : Pos := ⟨124, 0, 131, 15⟩
def q_213 (_ : Params) : Obj := { cls := .type "tuple", data := .seq #[] }
def q_214 (_ : Params) : Obj := { cls := .none, data := .fields #[] }
def q_215 (_ : Params) : Obj := { cls := .type "tuple", data := .seq #[.str "former" 2407, .str "latter" 2408, .str "head" 2409, .str "meant" 2410, .str "tail" 2411, .str "told" 2412] }
def q_216 (_ : Params) : Obj := { cls := .type "tuple", data := .seq #[] }
def q_217 (_ : Params) : Obj := { cls := .none, data := .func (fnd (stm 26) 0 .none .none 0) }
def q_218 (_ : Params) : Obj := { cls := .type "code", data := .fields #[.str "_law_alike" 2404, .str "_law_alike" 2405, .str "/claim/cut.py" 2406, .int 132 0, .int 2 0, .int 0 0, .int 0 0, .int 3 0, .ref 213, .bool true, .int 181 0, .ref 214, .none, .ref 215, .ref 216, .ref 217, .int 2413 0, .int 132 0, .str "/claim/cut.py" 2414] }
def q_219 (_ : Params) : Obj := { cls := .type "function", data := .func (fnd (stm 26) 3 (.str "law_pd0020_01" 2354) (.ref 218) 0) }
def c_26 (P : Params) : Obj := addCode 132 218 (c_25 P)
def m_26 (P : Params) : Obj := addKey P "_law_alike" 2415 (.ref 219) (m_25 P)
def T26 (P : Params) : BT := (.node (boot_o_0 P) (.node (boot_o_1 P) (.node (m_26 P) (.node (boot_o_7 P) (.node (top.o_7 P) (.node (top.o_23 P) (.node (top.o_59 P) (.node (q_127 P) .nil .nil) (.node (q_191 P) .nil .nil)) (.node (top.o_94 P) (.node (subObj 25 P) .nil .nil) .nil)) (.node (top.o_39 P) (.node (top.o_75 P) (.node (subObj 9 P) .nil .nil) (.node (q_207 P) .nil .nil)) (.node (top.o_110 P) (.node (q_175 P) .nil .nil) .nil))) (.node (top.o_15 P) (.node (top.o_31 P) (.node (top.o_67 P) (.node (subObj 1 P) .nil .nil) (.node (q_199 P) .nil .nil)) (.node (top.o_102 P) (.node (subObj 33 P) .nil .nil) .nil)) (.node (top.o_51 P) (.node (top.o_83 P) (.node (subObj 17 P) .nil .nil) (.node (q_215 P) .nil .nil)) (.node (q_119 P) (.node (q_183 P) .nil .nil) .nil)))) (.node (top.o_1 P) (.node (top.o_11 P) (.node (top.o_27 P) (.node (top.o_63 P) (.node (q_131 P) .nil .nil) (.node (q_195 P) .nil .nil)) (.node (top.o_98 P) (.node (subObj 29 P) .nil .nil) .nil)) (.node (top.o_47 P) (.node (top.o_79 P) (.node (subObj 13 P) .nil .nil) (.node (q_211 P) .nil .nil)) (.node (top.o_114 P) (.node (q_179 P) .nil .nil) .nil))) (.node (top.o_19 P) (.node (top.o_35 P) (.node (top.o_71 P) (.node (subObj 5 P) .nil .nil) (.node (q_203 P) .nil .nil)) (.node (top.o_106 P) (.node (subObj 37 P) .nil .nil) .nil)) (.node (top.o_55 P) (.node (top.o_87 P) (.node (subObj 21 P) .nil .nil) (.node (q_219 P) .nil .nil)) (.node (q_123 P) (.node (q_187 P) .nil .nil) .nil))))) (.node (boot_o_5 P) (.node (boot_o_9 P) (.node (top.o_9 P) (.node (top.o_25 P) (.node (top.o_61 P) (.node (q_129 P) .nil .nil) (.node (q_193 P) .nil .nil)) (.node (top.o_96 P) (.node (subObj 27 P) .nil .nil) .nil)) (.node (top.o_45 P) (.node (top.o_77 P) (.node (subObj 11 P) .nil .nil) (.node (q_209 P) .nil .nil)) (.node (top.o_112 P) (.node (q_177 P) .nil .nil) .nil))) (.node (top.o_17 P) (.node (top.o_33 P) (.node (top.o_69 P) (.node (subObj 3 P) .nil .nil) (.node (q_201 P) .nil .nil)) (.node (top.o_104 P) (.node (subObj 35 P) .nil .nil) .nil)) (.node (top.o_53 P) (.node (top.o_85 P) (.node (subObj 19 P) .nil .nil) (.node (q_217 P) .nil .nil)) (.node (q_121 P) (.node (q_185 P) .nil .nil) .nil)))) (.node (top.o_3 P) (.node (top.o_13 P) (.node (top.o_29 P) (.node (top.o_65 P) (.node (q_133 P) .nil .nil) (.node (q_197 P) .nil .nil)) (.node (top.o_100 P) (.node (subObj 31 P) .nil .nil) .nil)) (.node (top.o_49 P) (.node (top.o_81 P) (.node (subObj 15 P) .nil .nil) (.node (q_213 P) .nil .nil)) (.node (q_117 P) (.node (q_181 P) .nil .nil) .nil))) (.node (top.o_21 P) (.node (top.o_43 P) (.node (top.o_73 P) (.node (subObj 7 P) .nil .nil) (.node (q_205 P) .nil .nil)) (.node (top.o_108 P) (.node (q_173 P) .nil .nil) .nil)) (.node (top.o_57 P) (.node (top.o_89 P) (.node (subObj 23 P) .nil .nil) .nil) (.node (q_125 P) (.node (q_189 P) .nil .nil) .nil)))))) (.node (boot_o_2 P) (.node (boot_o_4 P) (.node (boot_o_8 P) (.node (top.o_8 P) (.node (top.o_24 P) (.node (top.o_60 P) (.node (q_128 P) .nil .nil) (.node (q_192 P) .nil .nil)) (.node (top.o_95 P) (.node (subObj 26 P) .nil .nil) .nil)) (.node (top.o_44 P) (.node (top.o_76 P) (.node (subObj 10 P) .nil .nil) (.node (q_208 P) .nil .nil)) (.node (top.o_111 P) (.node (q_176 P) .nil .nil) .nil))) (.node (top.o_16 P) (.node (top.o_32 P) (.node (top.o_68 P) (.node (subObj 2 P) .nil .nil) (.node (q_200 P) .nil .nil)) (.node (top.o_103 P) (.node (subObj 34 P) .nil .nil) .nil)) (.node (top.o_52 P) (.node (top.o_84 P) (.node (subObj 18 P) .nil .nil) (.node (q_216 P) .nil .nil)) (.node (q_120 P) (.node (q_184 P) .nil .nil) .nil)))) (.node (c_26 P) (.node (top.o_12 P) (.node (top.o_28 P) (.node (top.o_64 P) (.node (q_132 P) .nil .nil) (.node (q_196 P) .nil .nil)) (.node (top.o_99 P) (.node (subObj 30 P) .nil .nil) .nil)) (.node (top.o_48 P) (.node (top.o_80 P) (.node (subObj 14 P) .nil .nil) (.node (q_212 P) .nil .nil)) (.node (q_116 P) (.node (q_180 P) .nil .nil) .nil))) (.node (top.o_20 P) (.node (top.o_36 P) (.node (top.o_72 P) (.node (subObj 6 P) .nil .nil) (.node (q_204 P) .nil .nil)) (.node (top.o_107 P) (.node (subLast P) .nil .nil) .nil)) (.node (top.o_56 P) (.node (top.o_88 P) (.node (subObj 22 P) .nil .nil) .nil) (.node (q_124 P) (.node (q_188 P) .nil .nil) .nil))))) (.node (boot_o_6 P) (.node (boot_o_10 P) (.node (top.o_10 P) (.node (top.o_26 P) (.node (top.o_62 P) (.node (q_130 P) .nil .nil) (.node (q_194 P) .nil .nil)) (.node (top.o_97 P) (.node (subObj 28 P) .nil .nil) .nil)) (.node (top.o_46 P) (.node (top.o_78 P) (.node (subObj 12 P) .nil .nil) (.node (q_210 P) .nil .nil)) (.node (top.o_113 P) (.node (q_178 P) .nil .nil) .nil))) (.node (top.o_18 P) (.node (top.o_34 P) (.node (top.o_70 P) (.node (subObj 4 P) .nil .nil) (.node (q_202 P) .nil .nil)) (.node (top.o_105 P) (.node (subObj 36 P) .nil .nil) .nil)) (.node (top.o_54 P) (.node (top.o_86 P) (.node (subObj 20 P) .nil .nil) (.node (q_218 P) .nil .nil)) (.node (q_122 P) (.node (q_186 P) .nil .nil) .nil)))) (.node (top.o_4 P) (.node (top.o_14 P) (.node (top.o_30 P) (.node (top.o_66 P) (.node (bigObj P) .nil .nil) (.node (q_198 P) .nil .nil)) (.node (top.o_101 P) (.node (subObj 32 P) .nil .nil) .nil)) (.node (top.o_50 P) (.node (top.o_82 P) (.node (subObj 16 P) .nil .nil) (.node (q_214 P) .nil .nil)) (.node (q_118 P) (.node (q_182 P) .nil .nil) .nil))) (.node (top.o_22 P) (.node (top.o_38 P) (.node (top.o_74 P) (.node (subObj 8 P) .nil .nil) (.node (q_206 P) .nil .nil)) (.node (top.o_109 P) (.node (q_174 P) .nil .nil) .nil)) (.node (top.o_58 P) (.node (top.o_90 P) (.node (subObj 24 P) .nil .nil) .nil) (.node (q_126 P) (.node (q_190 P) .nil .nil) .nil)))))))
def S26 (w : World) (os : OsState) : SharedT := ⟨T26 w.params, 220, {}, ⟨[]⟩, {}, 2416, os⟩
def p26 : Pos := ⟨132, 0, 136, 90⟩
def q_220 (_ : Params) : Obj := { cls := .type "tuple", data := .seq #[] }
def q_221 (_ : Params) : Obj := { cls := .none, data := .fields #[] }
def q_222 (_ : Params) : Obj := { cls := .none, data := .func (fnd (stm 27) 0 .none .none 0) }
def q_223 (_ : Params) : Obj := { cls := .type "code", data := .fields #[.str "law" 2416, .str "law" 2417, .str "/claim/cut.py" 2418, .int 137 0, .int 1 0, .int 0 0, .int 0 0, .int 3 0, .ref 220, .bool true, .int 181 0, .ref 221, .none, .none, .none, .ref 222, .int 2419 0, .int 137 0, .str "/claim/cut.py" 2420] }
def q_224 (_ : Params) : Obj := { cls := .type "function", data := .func (fnd (stm 27) 3 (.str "law_pd0020_01" 2354) (.ref 223) 0) }
def c_27 (P : Params) : Obj := addCode 137 223 (c_26 P)
def m_27 (P : Params) : Obj := addKey P "law" 2421 (.ref 224) (m_26 P)
def T27 (P : Params) : BT := (.node (boot_o_0 P) (.node (boot_o_1 P) (.node (m_27 P) (.node (boot_o_7 P) (.node (top.o_7 P) (.node (top.o_23 P) (.node (top.o_59 P) (.node (q_127 P) .nil .nil) (.node (q_191 P) .nil .nil)) (.node (top.o_94 P) (.node (subObj 25 P) .nil .nil) (.node (q_223 P) .nil .nil))) (.node (top.o_39 P) (.node (top.o_75 P) (.node (subObj 9 P) .nil .nil) (.node (q_207 P) .nil .nil)) (.node (top.o_110 P) (.node (q_175 P) .nil .nil) .nil))) (.node (top.o_15 P) (.node (top.o_31 P) (.node (top.o_67 P) (.node (subObj 1 P) .nil .nil) (.node (q_199 P) .nil .nil)) (.node (top.o_102 P) (.node (subObj 33 P) .nil .nil) .nil)) (.node (top.o_51 P) (.node (top.o_83 P) (.node (subObj 17 P) .nil .nil) (.node (q_215 P) .nil .nil)) (.node (q_119 P) (.node (q_183 P) .nil .nil) .nil)))) (.node (top.o_1 P) (.node (top.o_11 P) (.node (top.o_27 P) (.node (top.o_63 P) (.node (q_131 P) .nil .nil) (.node (q_195 P) .nil .nil)) (.node (top.o_98 P) (.node (subObj 29 P) .nil .nil) .nil)) (.node (top.o_47 P) (.node (top.o_79 P) (.node (subObj 13 P) .nil .nil) (.node (q_211 P) .nil .nil)) (.node (top.o_114 P) (.node (q_179 P) .nil .nil) .nil))) (.node (top.o_19 P) (.node (top.o_35 P) (.node (top.o_71 P) (.node (subObj 5 P) .nil .nil) (.node (q_203 P) .nil .nil)) (.node (top.o_106 P) (.node (subObj 37 P) .nil .nil) .nil)) (.node (top.o_55 P) (.node (top.o_87 P) (.node (subObj 21 P) .nil .nil) (.node (q_219 P) .nil .nil)) (.node (q_123 P) (.node (q_187 P) .nil .nil) .nil))))) (.node (boot_o_5 P) (.node (boot_o_9 P) (.node (top.o_9 P) (.node (top.o_25 P) (.node (top.o_61 P) (.node (q_129 P) .nil .nil) (.node (q_193 P) .nil .nil)) (.node (top.o_96 P) (.node (subObj 27 P) .nil .nil) .nil)) (.node (top.o_45 P) (.node (top.o_77 P) (.node (subObj 11 P) .nil .nil) (.node (q_209 P) .nil .nil)) (.node (top.o_112 P) (.node (q_177 P) .nil .nil) .nil))) (.node (top.o_17 P) (.node (top.o_33 P) (.node (top.o_69 P) (.node (subObj 3 P) .nil .nil) (.node (q_201 P) .nil .nil)) (.node (top.o_104 P) (.node (subObj 35 P) .nil .nil) .nil)) (.node (top.o_53 P) (.node (top.o_85 P) (.node (subObj 19 P) .nil .nil) (.node (q_217 P) .nil .nil)) (.node (q_121 P) (.node (q_185 P) .nil .nil) .nil)))) (.node (top.o_3 P) (.node (top.o_13 P) (.node (top.o_29 P) (.node (top.o_65 P) (.node (q_133 P) .nil .nil) (.node (q_197 P) .nil .nil)) (.node (top.o_100 P) (.node (subObj 31 P) .nil .nil) .nil)) (.node (top.o_49 P) (.node (top.o_81 P) (.node (subObj 15 P) .nil .nil) (.node (q_213 P) .nil .nil)) (.node (q_117 P) (.node (q_181 P) .nil .nil) .nil))) (.node (top.o_21 P) (.node (top.o_43 P) (.node (top.o_73 P) (.node (subObj 7 P) .nil .nil) (.node (q_205 P) .nil .nil)) (.node (top.o_108 P) (.node (q_173 P) .nil .nil) .nil)) (.node (top.o_57 P) (.node (top.o_89 P) (.node (subObj 23 P) .nil .nil) (.node (q_221 P) .nil .nil)) (.node (q_125 P) (.node (q_189 P) .nil .nil) .nil)))))) (.node (boot_o_2 P) (.node (boot_o_4 P) (.node (boot_o_8 P) (.node (top.o_8 P) (.node (top.o_24 P) (.node (top.o_60 P) (.node (q_128 P) .nil .nil) (.node (q_192 P) .nil .nil)) (.node (top.o_95 P) (.node (subObj 26 P) .nil .nil) (.node (q_224 P) .nil .nil))) (.node (top.o_44 P) (.node (top.o_76 P) (.node (subObj 10 P) .nil .nil) (.node (q_208 P) .nil .nil)) (.node (top.o_111 P) (.node (q_176 P) .nil .nil) .nil))) (.node (top.o_16 P) (.node (top.o_32 P) (.node (top.o_68 P) (.node (subObj 2 P) .nil .nil) (.node (q_200 P) .nil .nil)) (.node (top.o_103 P) (.node (subObj 34 P) .nil .nil) .nil)) (.node (top.o_52 P) (.node (top.o_84 P) (.node (subObj 18 P) .nil .nil) (.node (q_216 P) .nil .nil)) (.node (q_120 P) (.node (q_184 P) .nil .nil) .nil)))) (.node (c_27 P) (.node (top.o_12 P) (.node (top.o_28 P) (.node (top.o_64 P) (.node (q_132 P) .nil .nil) (.node (q_196 P) .nil .nil)) (.node (top.o_99 P) (.node (subObj 30 P) .nil .nil) .nil)) (.node (top.o_48 P) (.node (top.o_80 P) (.node (subObj 14 P) .nil .nil) (.node (q_212 P) .nil .nil)) (.node (q_116 P) (.node (q_180 P) .nil .nil) .nil))) (.node (top.o_20 P) (.node (top.o_36 P) (.node (top.o_72 P) (.node (subObj 6 P) .nil .nil) (.node (q_204 P) .nil .nil)) (.node (top.o_107 P) (.node (subLast P) .nil .nil) .nil)) (.node (top.o_56 P) (.node (top.o_88 P) (.node (subObj 22 P) .nil .nil) (.node (q_220 P) .nil .nil)) (.node (q_124 P) (.node (q_188 P) .nil .nil) .nil))))) (.node (boot_o_6 P) (.node (boot_o_10 P) (.node (top.o_10 P) (.node (top.o_26 P) (.node (top.o_62 P) (.node (q_130 P) .nil .nil) (.node (q_194 P) .nil .nil)) (.node (top.o_97 P) (.node (subObj 28 P) .nil .nil) .nil)) (.node (top.o_46 P) (.node (top.o_78 P) (.node (subObj 12 P) .nil .nil) (.node (q_210 P) .nil .nil)) (.node (top.o_113 P) (.node (q_178 P) .nil .nil) .nil))) (.node (top.o_18 P) (.node (top.o_34 P) (.node (top.o_70 P) (.node (subObj 4 P) .nil .nil) (.node (q_202 P) .nil .nil)) (.node (top.o_105 P) (.node (subObj 36 P) .nil .nil) .nil)) (.node (top.o_54 P) (.node (top.o_86 P) (.node (subObj 20 P) .nil .nil) (.node (q_218 P) .nil .nil)) (.node (q_122 P) (.node (q_186 P) .nil .nil) .nil)))) (.node (top.o_4 P) (.node (top.o_14 P) (.node (top.o_30 P) (.node (top.o_66 P) (.node (bigObj P) .nil .nil) (.node (q_198 P) .nil .nil)) (.node (top.o_101 P) (.node (subObj 32 P) .nil .nil) .nil)) (.node (top.o_50 P) (.node (top.o_82 P) (.node (subObj 16 P) .nil .nil) (.node (q_214 P) .nil .nil)) (.node (q_118 P) (.node (q_182 P) .nil .nil) .nil))) (.node (top.o_22 P) (.node (top.o_38 P) (.node (top.o_74 P) (.node (subObj 8 P) .nil .nil) (.node (q_206 P) .nil .nil)) (.node (top.o_109 P) (.node (q_174 P) .nil .nil) .nil)) (.node (top.o_58 P) (.node (top.o_90 P) (.node (subObj 24 P) .nil .nil) (.node (q_222 P) .nil .nil)) (.node (q_126 P) (.node (q_190 P) .nil .nil) .nil)))))))
def S27 (w : World) (os : OsState) : SharedT := ⟨T27 w.params, 225, {}, ⟨[]⟩, {}, 2422, os⟩
def p27 : Pos := ⟨137, 0, 149, 15⟩
end
end Mine
namespace Mine
noncomputable section
noncomputable abbrev cB (b : List Stmt) : Code := Code.body b top.env_1
noncomputable abbrev stk : List Frame := [topFrame q0]
noncomputable abbrev sR (w : World) : Nat → Shared → Thread → Option (Flow × Shared × Code × Pos) := segRun treeTable prog w 11 (some (.ref 6)) 1
theorem sR_mono {w : World} (k : Nat) : ∀ (n : Nat) (s : Shared) (t : Thread) (r : Flow × Shared × Code × Pos), sR w n s t = some r → sR w (n + k) s t = some r
  | 0, _, _, _, h => by simp [sR, segRun] at h
  | n + 1, s, t, r, h => by
    rw [show n + 1 + k = n + k + 1 by omega]
    unfold sR segRun at h ⊢
    cases ht : endAt 1 t with
    | some f => rw [ht] at h; exact h
    | none =>
      rw [ht] at h
      cases hk : stepOk 11 (some (.ref 6)) t with
      | false => rw [hk] at h; cases h
      | true =>
        rw [hk] at h
        cases hs : step (denote treeTable) prog w s t with
        | halt o s' => rw [hs] at h; cases h
        | go s' t' => rw [hs] at h; exact sR_mono k n s' t' r h
/-- a tree that ends plainly within n steps -/
def Bn (w : World) (b : List Stmt) {α : Type} (n : Nat) (x : Sem α) (p : Pos) (s : Shared) (Q : α → Pos → Shared → Prop) : Prop :=
  ∃ a p' s', Q a p' s' ∧ ∀ (K : α → Sem PySem.Fin) (H : Value → Sem PySem.Fin) (gd : Bool → Bool) (lv : List Value → List Value) (N : Nat) (r : Flow × Shared × Code × Pos),
    sR w N s' ⟨K a, cB b, p', stk⟩ = some r → sR w (n + N) s ⟨x.wrap K H gd lv, cB b, p, stk⟩ = some r
section
variable {w : World} {b : List Stmt} {α β : Type} {p : Pos} {s : Shared} {n m : Nat}
theorem bn_pure {a : α} {Q : α → Pos → Shared → Prop} (h : Q a p s) : Bn w b 0 (pure a) p s Q := ⟨a, p, s, h, fun K H gd lv N r k => by rw [Nat.zero_add]; exact k⟩
theorem bn_le {x : Sem α} {Q : α → Pos → Shared → Prop} (h : Bn w b n x p s Q) (le : n ≤ m) : Bn w b m x p s Q := by
  obtain ⟨a, p', s', q, k⟩ := h
  refine ⟨a, p', s', q, fun K H gd lv N r e => ?_⟩
  rw [show m + N = n + N + (m - n) by omega]
  exact sR_mono _ _ _ _ _ (k K H gd lv N r e)
theorem bn_mono {x : Sem α} {Q Q' : α → Pos → Shared → Prop} (h : Bn w b n x p s Q) (hQ : ∀ a p s, Q a p s → Q' a p s) : Bn w b n x p s Q' :=
  let ⟨a, p', s', q, k⟩ := h; ⟨a, p', s', hQ _ _ _ q, k⟩
theorem bn_bind {x : Sem α} {f : α → Sem β} {Q : β → Pos → Shared → Prop} (h : Bn w b n x p s (fun a p' s' => Bn w b m (f a) p' s' Q)) : Bn w b (n + m) (x >>= f) p s Q := by
  obtain ⟨a, p', s', ⟨a2, p2, s2, q, k2⟩, k⟩ := h
  refine ⟨a2, p2, s2, q, fun K H gd lv N r e => ?_⟩
  rw [Sem.bind_eq_wrap', Sem.wrap_wrap, Nat.add_assoc]
  exact k _ _ _ _ _ _ (k2 K H gd lv N r e)
theorem bn_keep {vs : List Value} {x : Sem α} {Q : α → Pos → Shared → Prop} (h : Bn w b n x p s Q) : Bn w b n (x.keep vs) p s Q := by
  obtain ⟨a, p', s', q, k⟩ := h
  refine ⟨a, p', s', q, fun K H gd lv N r e => ?_⟩
  rw [Sem.keep_eq_wrap, Sem.wrap_wrap]
  exact k _ _ _ _ _ _ e
theorem bn_holding {vs : List Value} {x : Sem α} {Q : α → Pos → Shared → Prop} (h : Bn w b n x p s Q) : Bn w b n (holding vs x) p s Q := by
  unfold holding
  split
  · exact h
  · exact bn_keep h
theorem bn_onRaise {k : Value → Sem Unit} {x : Sem α} {Q : α → Pos → Shared → Prop} (h : Bn w b n x p s Q) : Bn w b n (x.onRaise k) p s Q := by
  obtain ⟨a, p', s', q, k⟩ := h
  refine ⟨a, p', s', q, fun K H gd lv N r e => ?_⟩
  rw [Sem.onRaise_eq_wrap, Sem.wrap_wrap]
  exact k _ _ _ _ _ _ e
theorem bn_catch {k : Value → Sem α} {x : Sem α} {Q : α → Pos → Shared → Prop} (h : Bn w b n x p s Q) : Bn w b n (x.tryCatch k) p s Q := by
  obtain ⟨a, p', s', q, k⟩ := h
  refine ⟨a, p', s', q, fun K H gd lv N r e => ?_⟩
  rw [Sem.tryCatch_eq_wrap, Sem.wrap_wrap]
  exact k _ _ _ _ _ _ e
theorem bn_rule {tag : String} {Q : Unit → Pos → Shared → Prop} (h : Q () p s) : Bn w b 1 (rule tag) p s Q :=
  ⟨(), p, s, h, fun K H gd lv N r e => by rw [Nat.add_comm]; exact e⟩
theorem bn_at {p' : Pos} {Q : Unit → Pos → Shared → Prop} (h : Q () p' s) : Bn w b 1 (standAt p') p s Q :=
  ⟨(), p', s, h, fun K H gd lv N r e => by rw [Nat.add_comm]; exact e⟩
theorem bn_fresh {Q : Nat → Pos → Shared → Prop} (h : Q s.toks p { s with toks := s.toks + 1 }) : Bn w b 1 fresh p s Q :=
  ⟨_, p, _, h, fun K H gd lv N r e => by rw [Nat.add_comm]; exact e⟩
theorem bn_ask {Q : Setting → Pos → Shared → Prop} (h : Q ⟨prog, w.params⟩ p s) : Bn w b 1 ask p s Q :=
  ⟨_, p, s, h, fun K H gd lv N r e => by rw [Nat.add_comm]; exact e⟩
theorem bn_alloc {o : Obj} {Q : Addr → Pos → Shared → Prop} (h : Q s.heap.objs.size p { s with heap := s.heap.push o }) : Bn w b 1 (alloc o) p s Q :=
  ⟨_, p, _, h, fun K H gd lv N r e => by rw [Nat.add_comm]; exact e⟩
theorem bn_load {a : Addr} {part : Option Value} {o : Obj} {Q : Obj → Pos → Shared → Prop} (ho : s.heap.get? a = some o) (h : Q o p s) : Bn w b 1 (loadPart a part) p s Q := by
  refine ⟨o, p, s, h, fun K H gd lv N r e => ?_⟩
  obtain ⟨hp, g, d, t, os⟩ := s
  rw [Nat.add_comm]
  show (match step (denote treeTable) prog w ⟨hp, g, d, t, os⟩ ⟨.load a part fun o => K o, cB b, p, stk⟩ with
    | .go s' t' => sR w N s' t'
    | .halt _ _ => none) = some r
  have : step (denote treeTable) prog w ⟨hp, g, d, t, os⟩ ⟨.load a part fun o => K o, cB b, p, stk⟩ = .go ⟨hp, g, d, t, os⟩ ⟨K o, cB b, p, stk⟩ := by
    simp only [step, show hp.get? a = some o from ho]
  rw [this]
  exact e
theorem bn_update {a : Addr} {part : Option Value} {f : Obj → Obj} {o : Obj} {Q : Unit → Pos → Shared → Prop} (ha : 11 ≤ a) (ho : s.heap.get? a = some o) (h : Q () p { s with heap := s.heap.update a f }) : Bn w b 1 (updatePart a part f) p s Q := by
  refine ⟨(), p, _, h, fun K H gd lv N r e => ?_⟩
  obtain ⟨hp, g, d, t, os⟩ := s
  rw [Nat.add_comm]
  have hok : stepOk 11 (some (.ref 6)) ⟨.update a part f fun u => K u, cB b, p, stk⟩ = true := by
    have h1 : Nat.ble 11 a = true := Nat.ble_eq.mpr ha
    show (true && (Nat.ble 11 a || a == mainNs || a == cStatics || (some (Value.ref 6) : Option Value) == some (Value.ref a))) = true
    rw [h1]; rfl
  show (match stepOk 11 (some (.ref 6)) ⟨.update a part f fun u => K u, cB b, p, stk⟩ with
    | false => none
    | true => match step (denote treeTable) prog w ⟨hp, g, d, t, os⟩ ⟨.update a part f fun u => K u, cB b, p, stk⟩ with
      | .go s' t' => sR w N s' t'
      | .halt _ _ => none) = some r
  have : step (denote treeTable) prog w ⟨hp, g, d, t, os⟩ ⟨.update a part f fun u => K u, cB b, p, stk⟩ = .go ⟨hp.update a f, g, d, t, os⟩ ⟨K (), cB b, p, stk⟩ := by
    simp only [step, show hp.get? a = some o from ho, Option.isSome_some, if_true]
  rw [hok, this]
  exact e
end
end
end Mine
namespace Mine
noncomputable section
def hashI (k : Int) : Int := let h : Int := k.natAbs % (2 ^ 61 - 1 : Nat); let h := if k < 0 then -h else h; if h == -1 then -2 else h
noncomputable abbrev twGo := PySem.W.Fast.tw3277212676724774461
noncomputable abbrev twTab := PySem.W.Fast.tw14364793385576792824
noncomputable abbrev twHash := PySem.W.Fast.tw10540108854288196387
noncomputable abbrev wF (w : World) := w.withFollow "special-get-raises" false
noncomputable abbrev wT (w : World) := w.withFollow "special-get-raises" true
theorem hashF (w : World) (b : List Stmt) (h : Heap) (g : Array GenState) (d : Drawn) (t : Nat) (os : OsState) (k : Int) (tk : Tok) (K : Int → Sem PySem.Fin) (H : Value → Sem PySem.Fin) (gd : Bool → Bool) (lv : List Value → List Value) (p : Pos) :
    twGo twTab prog (wF w) 11 (some (.ref 6)) 1 5 ⟨h, g, d, t, os⟩ ⟨(twHash (.int k tk)).wrap K H gd lv, cB b, p, stk⟩ = some (⟨h, g, d, t + 1, os⟩, ⟨(pyHashByItsType.reduced (hashI k)).wrap K H gd lv, cB b, p, stk⟩) := by kernel_rfl!
theorem hashT (w : World) (b : List Stmt) (h : Heap) (g : Array GenState) (d : Drawn) (t : Nat) (os : OsState) (k : Int) (tk : Tok) (K : Int → Sem PySem.Fin) (H : Value → Sem PySem.Fin) (gd : Bool → Bool) (lv : List Value → List Value) (p : Pos) :
    twGo twTab prog (wT w) 11 (some (.ref 6)) 1 5 ⟨h, g, d, t, os⟩ ⟨(twHash (.int k tk)).wrap K H gd lv, cB b, p, stk⟩ = some (⟨h, g, d, t + 1, os⟩, ⟨(pyHashByItsType.reduced (hashI k)).wrap K H gd lv, cB b, p, stk⟩) := by kernel_rfl!
end
end Mine
namespace Mine
noncomputable section
section
variable {w : World} {b : List Stmt} {α β : Type} {p : Pos} {s : Shared} {n m : Nat}
theorem go_bn {x : Sem α} {n : Nat} {s' : Shared} {y : Sem α} {p' : Pos} (h : ∀ (K : α → Sem PySem.Fin) (H : Value → Sem PySem.Fin) (gd : Bool → Bool) (lv : List Value → List Value), segGo treeTable prog w 11 (some (.ref 6)) 1 n s ⟨x.wrap K H gd lv, cB b, p, stk⟩ = some (s', ⟨y.wrap K H gd lv, cB b, p', stk⟩))
    {m : Nat} {Q : α → Pos → Shared → Prop} (k : Bn w b m y p' s' Q) : Bn w b (n + m) x p s Q := by
  obtain ⟨a, p2, s2, q, k⟩ := k
  refine ⟨a, p2, s2, q, fun K H gd lv N r e => ?_⟩
  rw [Nat.add_assoc]
  exact seg_go (h K H gd lv) (k K H gd lv N r e)
theorem hashI_id {k : Int} (h0 : 0 ≤ k) (h1 : k ≤ 1114111) : hashI k = k := by
  have e : (k.natAbs : Int) % ((2 ^ 61 - 1 : Nat) : Int) = k := by
    rw [Int.natAbs_of_nonneg h0]
    refine Int.emod_eq_of_lt h0 ?_
    have : ((2 ^ 61 - 1 : Nat) : Int) = 2305843009213693951 := by decide
    omega
  unfold hashI
  simp only [e]
  have h2 : ¬ k < 0 := by omega
  rw [if_neg h2]
  have h3 : (k == -1) = false := by simp; omega
  rw [h3]; rfl
theorem reduced_id {k : Int} (h0 : 0 ≤ k) (h1 : k ≤ 1114111) : pyHashByItsType.reduced k = pure k := by
  unfold pyHashByItsType.reduced
  have h4 : (decide (-(2 ^ 63 : Int) ≤ k) && decide (k < 2 ^ 63)) = true := by simp; omega
  have h3 : (k == -1) = false := by simp; omega
  rw [h4, h3]; rfl
theorem bn_hash {k : Int} {tk : Tok} {h : Heap} {g : Array GenState} {d : Drawn} {t : Nat} {os : OsState} {Q : Int → Pos → Shared → Prop} (h0 : 0 ≤ k) (h1 : k ≤ 1114111) (H : Q k p ⟨h, g, d, t + 1, os⟩) :
    Bn w b 5 (pyHash (.int k tk)) p ⟨h, g, d, t, os⟩ Q := by
  refine go_bn (n := 5) (m := 0) (y := pyHashByItsType.reduced (hashI k)) (s' := ⟨h, g, d, t + 1, os⟩) (p' := p) (fun K H' gd lv => ?_) ?_
  · have e := World.withFollow_self w "special-get-raises"
    rw [PySem.W.Fast.te3277212676724774461, PySem.W.Fast.te14364793385576792824, PySem.W.Fast.te10540108854288196387]
    cases hb : w.params.followText "special-get-raises" <;> rw [hb] at e
    · rw [← e]; exact hashF w b h g d t os k tk K H' gd lv p
    · rw [← e]; exact hashT w b h g d t os k tk K H' gd lv p
  · rw [hashI_id h0 h1, reduced_id h0 h1]
    exact bn_pure H
/-- a heap: an old one and new objects -/
def hp (h₀ : Heap) (l : List Obj) : Heap := ⟨h₀.objs ++ l.toArray, h₀.life⟩
theorem hp_size (h₀ : Heap) (l : List Obj) : (hp h₀ l).objs.size = h₀.objs.size + l.length := by simp [hp]
theorem hp_push (h₀ : Heap) (l : List Obj) (o : Obj) : (hp h₀ l).push o = hp h₀ (l ++ [o]) := by
  unfold hp Heap.push
  simp
def dO (es : List DictEntry) (n : Nat) : Obj := { cls := .type "dict", data := .dict es.toArray n }
theorem hp_get {h₀ : Heap} {l : List Obj} {j : Nat} {es : List DictEntry} {n : Nat} (e : l[j]? = some (dO es n)) : (hp h₀ l).get? (h₀.objs.size + j) = some (dO es n) := by
  unfold Heap.get? hp
  have : (h₀.objs ++ l.toArray)[h₀.objs.size + j]? = some (dO es n) := by
    rw [Array.getElem?_append_right (Nat.le_add_right _ _)]
    simp [e]
  rw [this]; rfl
theorem hp_update {h₀ : Heap} {l : List Obj} {j : Nat} {o : Obj} (f : Obj → Obj) (e : l[j]? = some o) : (hp h₀ l).update (h₀.objs.size + j) f = hp h₀ (l.set j (f o)) := by
  unfold hp Heap.update
  refine congrArg (Heap.mk · h₀.life) ?_
  apply Array.ext_getElem?
  intro i
  rw [Array.getElem?_modify, Array.getElem?_append, Array.getElem?_append]
  by_cases hi : i < h₀.objs.size
  · have : h₀.objs.size + j ≠ i := by omega
    simp [hi, this]
  · simp only [hi, if_false]
    by_cases hj : h₀.objs.size + j = i
    · subst hj
      have hlt : j < l.length := (List.getElem?_eq_some_iff.mp e).1
      have h9 := (List.getElem?_eq_some_iff.mp e).2
      simp [e, hlt, h9]
    · have : j ≠ i - h₀.objs.size := by omega
      simp [hj, List.getElem?_set, this]
theorem bn_forIn {ι β : Type} (f : ι → β → Sem (ForInStep β)) (k : Nat) : ∀ (l : List ι) (J : Nat → β → Shared → Prop)
    (_ : ∀ i x, l[i]? = some x → ∀ c p s, J i c s → Bn w b k (f x c) p s (fun r _ s' => ∃ c', r = .yield c' ∧ J (i + 1) c' s')) (p : Pos) (s : Shared) (c : β), J 0 c s →
      Bn w b (k * l.length) (forIn l c f) p s (fun c' _ s' => J l.length c' s')
  | [], J, _, p, s, c, h => by
    rw [List.forIn_nil]; exact bn_pure h
  | x :: l, J, st, p, s, c, h => by
    rw [List.forIn_cons, List.length_cons, Nat.mul_succ, Nat.add_comm]
    refine bn_bind (bn_mono (st 0 x rfl c p s h) ?_)
    rintro r p' s' ⟨c', rfl, hj⟩
    exact bn_forIn f k l (fun i => J (i + 1)) (fun i y hy => st (i + 1) y (by simpa using hy)) p' s' c' hj
end
end
end Mine
namespace Mine
noncomputable section
section
variable {w : World} {b : List Stmt} {α β : Type} {p : Pos} {s : Shared} {n m : Nat}
theorem places_none (es : List DictEntry) (k : Int) (h : ∀ e ∈ es, e.hash ≠ k) : placesWithHash es.toArray.size (fun i => es.toArray[i]?.map (·.hash)) k = [] := by
  unfold placesWithHash
  rw [List.filter_eq_nil_iff]
  intro i hi
  show ¬ (Option.map (fun x => x.hash) es.toArray[i]? == some k) = true
  rw [List.getElem?_toArray]
  cases e : es[i]? with
  | none => simp
  | some x =>
    have := h x (List.mem_of_getElem? e)
    simpa using this
theorem bn_find {h : Heap} {g : Array GenState} {d : Drawn} {t : Nat} {os : OsState} {a : Addr} {es : List DictEntry} {n : Nat} {k : Int} {tk : Tok} {Q : Option Nat → Pos → Shared → Prop} (ho : h.get? a = some (dO es n)) (hn : ∀ e ∈ es, e.hash ≠ k)
    (H : Q none p ⟨h, g, d, t, os⟩) : Bn w b 1 (dictFind a (.int k tk) k) p ⟨h, g, d, t, os⟩ Q := by
  unfold dictFind
  refine bn_holding (bn_bind (n := 1) (m := 0) ?_)
  unfold dictEntries
  refine bn_bind (n := 1) (m := 0) (bn_load (s := ⟨h, g, d, t, os⟩) ho ?_)
  refine bn_pure ?_
  have e := places_none es k hn
  show Bn w b 0 (let places := placesWithHash es.toArray.size (fun i => es.toArray[i]?.map (·.hash)) k; _) p _ Q
  dsimp only
  rw [e]
  exact bn_pure H
theorem bn_putKeys {h₀ : Heap} {l : List Obj} {j : Nat} {g : Array GenState} {d : Drawn} {t : Nat} {os : OsState} {es : List DictEntry} {n : Nat} {x : DictEntry} {part : Option Value} {Q : Unit → Pos → Shared → Prop} (hz : 11 ≤ h₀.objs.size) (e : l[j]? = some (dO es n)) (hl : es.length ≤ 1000)
    (H : Q () p ⟨hp h₀ (l.set j (dO (es ++ [x]) (n + 1))), g, d, t, os⟩) : Bn w b 3 (updateDictKeys (h₀.objs.size + j) (·.push x) part) p ⟨hp h₀ l, g, d, t, os⟩ Q := by
  unfold updateDictKeys
  refine bn_bind (n := 1) (m := 2) (bn_load (s := ⟨hp h₀ l, g, d, t, os⟩) (hp_get e) ?_)
  show Bn w b 2 (do updatePart (h₀.objs.size + j) part (Obj.mapDictKeys (·.push x)); lookBehind (h₀.objs.size + j) part) p _ Q
  refine bn_bind (n := 1) (m := 1) (bn_update (s := ⟨hp h₀ l, g, d, t, os⟩) (Nat.le_trans hz (Nat.le_add_right _ _)) (hp_get e) ?_)
  dsimp only
  rw [hp_update _ e, show Obj.mapDictKeys (·.push x) (dO es n) = dO (es ++ [x]) (n + 1) by simp [dO, Obj.mapDictKeys]]
  unfold lookBehind
  refine bn_bind (n := 1) (m := 0) (bn_load (s := ⟨hp h₀ _, g, d, t, os⟩) (hp_get (es := es ++ [x]) (n := n + 1) ?_) ?_)
  · exact List.getElem?_set_self (List.getElem?_eq_some_iff.mp e).1
  · have : (dO (es ++ [x]) (n + 1)).data.pastItsLine = none := by
      show (if (es ++ [x]).toArray.size > sizeLine + 1 then some "dict:memory" else none) = none
      have z : sizeLine = 16777216 := rfl
      rw [if_neg]
      rw [List.size_toArray, List.length_append, List.length_singleton]
      omega
    rw [this]
    exact bn_pure H
theorem bn_set {h₀ : Heap} {l : List Obj} {j : Nat} {g : Array GenState} {d : Drawn} {t : Nat} {os : OsState} {es : List DictEntry} {n : Nat} {k : Int} {tk : Tok} {v : Value} {Q : Unit → Pos → Shared → Prop} (hz : 11 ≤ h₀.objs.size) (e : l[j]? = some (dO es n)) (hl : es.length ≤ 1000)
    (h0 : 0 ≤ k) (h1 : k ≤ 1114111) (hn : ∀ e ∈ es, e.hash ≠ k)
    (H : Q () p ⟨hp h₀ (l.set j (dO (es ++ [⟨k, .int k tk, v⟩]) (n + 1))), g, d, t + 1, os⟩) : Bn w b 10 (dictSet (h₀.objs.size + j) (.int k tk) v) p ⟨hp h₀ l, g, d, t, os⟩ Q := by
  unfold dictSet
  refine bn_holding (bn_bind (n := 5) (m := 5) (bn_hash h0 h1 ?_))
  unfold dictSetHashed
  refine bn_holding (bn_bind (n := 1) (m := 4) (bn_find (hp_get e) hn ?_))
  refine bn_bind (n := 1) (m := 3) (bn_rule ?_)
  exact bn_putKeys hz e hl H
theorem bn_put {h₀ : Heap} {l : List Obj} {j : Nat} {g : Array GenState} {d : Drawn} {t : Nat} {os : OsState} {es : List DictEntry} {n : Nat} {k : Int} {tk : Tok} {v : Value} {Q : Unit → Pos → Shared → Prop} (hz : 11 ≤ h₀.objs.size) (e : l[j]? = some (dO es n)) (hl : es.length ≤ 1000)
    (hn : ∀ e ∈ es, e.hash ≠ k)
    (H : Q () p ⟨hp h₀ (l.set j (dO (es ++ [⟨k, .int k tk, v⟩]) (n + 1))), g, d, t, os⟩) : Bn w b 4 (dictPut (h₀.objs.size + j) k (.int k tk) v) p ⟨hp h₀ l, g, d, t, os⟩ Q := by
  unfold dictPut
  refine bn_bind (n := 1) (m := 3) (bn_find (hp_get e) hn ?_)
  exact bn_putKeys hz e hl H
/-- the entries of pairs, from a token on: a key's, a value's, and one more for the hash -/
def IsK (w : World) (b : List Stmt) (m : Sem Value) (k : Int) : Prop := ∀ p s (Q : Value → Pos → Shared → Prop), (∀ p', Q (.int k s.toks) p' { s with toks := s.toks + 1 }) → Bn w b 3 m p s Q
def IsV (w : World) (b : List Stmt) (m : Sem Value) (x : Str) : Prop := ∀ p s (Q : Value → Pos → Shared → Prop), (∀ p', Q (.str x s.toks) p' { s with toks := s.toks + 1 }) → Bn w b 3 m p s Q
def Kvs (w : World) (b : List Stmt) (run : List (Sem Value × Sem Value)) (l : List (Int × Str)) : Prop := run.length = l.length ∧ ∀ (i : Nat) (m : Sem Value × Sem Value) (x : Int × Str), run[i]? = some m → l[i]? = some x → IsK w b m.1 x.1 ∧ IsV w b m.2 x.2 ∧ 0 ≤ x.1 ∧ x.1 ≤ 1114111
theorem ent_len (t : Nat) (l : List (Int × Str)) : (entries t l).length = l.length := by
  induction l generalizing t with
  | nil => rfl
  | cons a r ih => obtain ⟨k, x⟩ := a; simp [entries, ih]
theorem ent_get (l : List (Int × Str)) : ∀ (t i : Nat) (x : Int × Str), l[i]? = some x → (entries t l)[i]? = some ⟨x.1, .int x.1 (t + 3 * i), .str x.2 (t + 3 * i + 1)⟩ := by
  induction l with
  | nil => intro t i x h; simp at h
  | cons a r ih =>
    intro t i x h
    obtain ⟨k, y⟩ := a
    cases i with
    | zero => cases h; rfl
    | succ i =>
      have h' : r[i]? = some x := by simpa using h
      show (entries (t + 3) r)[i]? = _
      rw [ih _ _ _ h', show t + 3 + 3 * i = t + 3 * (i + 1) by omega]
theorem ent_take_succ {t : Nat} {l : List (Int × Str)} {i : Nat} {x : Int × Str} (h : l[i]? = some x) : (entries t l).take (i + 1) = (entries t l).take i ++ [⟨x.1, .int x.1 (t + 3 * i), .str x.2 (t + 3 * i + 1)⟩] := by
  rw [List.take_succ, ent_get l t i x h]; rfl
theorem ent_hash {t : Nat} {l : List (Int × Str)} {i : Nat} {e : DictEntry} (h : e ∈ (entries t l).take i) : ∃ j x, j < i ∧ l[j]? = some x ∧ e.hash = x.1 := by
  obtain ⟨j, hj⟩ := List.mem_iff_getElem?.mp h
  rw [List.getElem?_take] at hj
  split at hj
  · rename_i hlt
    have : j < l.length := by
      have := (List.getElem?_eq_some_iff.mp hj).1
      rwa [ent_len] at this
    rw [ent_get l t j l[j] (List.getElem?_eq_getElem this)] at hj
    cases hj
    exact ⟨j, l[j], hlt, List.getElem?_eq_getElem this, rfl⟩
  · cases hj
/-- strictly rising keys -/
def Rising (l : List (Int × Str)) : Prop := ∀ (i j : Nat) (x y : Int × Str), i < j → l[i]? = some x → l[j]? = some y → x.1 < y.1
theorem ent_fresh {t : Nat} {l : List (Int × Str)} (hr : Rising l) {i : Nat} {x : Int × Str} (h : l[i]? = some x) : ∀ e ∈ (entries t l).take i, e.hash ≠ x.1 := by
  intro e he
  obtain ⟨j, y, hj, hy, e1⟩ := ent_hash he
  have := hr j i y x hj hy h
  omega
theorem set_last {α : Type} (L : List α) (o o' : α) : (L ++ [o]).set L.length o' = L ++ [o'] := by simp
theorem get_last {α : Type} (L : List α) (o : α) : (L ++ [o])[L.length]? = some o := by simp
theorem bn_subLong {h₀ : Heap} {L : List Obj} {g : Array GenState} {d : Drawn} {t : Nat} {os : OsState} {run : List (Sem Value × Sem Value)} {l : List (Int × Str)} {Q : Addr → Pos → Shared → Prop} (hz : 11 ≤ h₀.objs.size) (hk : Kvs w b run l) (hr : Rising l)
    (h1 : 15 < l.length) (h2 : l.length ≤ 100) (H : ∀ p', Q (h₀.objs.size + L.length) p' ⟨hp h₀ (L ++ [dO (entries t l) l.length]), g, d, t + 3 * l.length, os⟩) : Bn w b (2 + 20 * l.length) (subDict run) p ⟨hp h₀ L, g, d, t, os⟩ Q := by
  unfold subDict
  rw [show 2 + 20 * l.length = 1 + (1 + 20 * l.length) by omega]
  refine bn_bind (bn_alloc ?_)
  dsimp only
  rw [hp_size, hp_push]
  refine bn_bind (n := 1 + 20 * l.length) (m := 0) (bn_holding ?_)
  rw [if_neg (by rw [hk.1]; omega)]
  refine bn_bind (n := 1) (m := 20 * l.length) (bn_rule ?_)
  rw [← hk.1]
  refine bn_bind (n := 20 * run.length) (m := 0) ?_
  refine bn_mono (bn_forIn _ 20 run (fun i _ s => s = ⟨hp h₀ (L ++ [dO ((entries t l).take i) i]), g, d, t + 3 * i, os⟩) ?_ _ _ _ rfl) ?_
  · rintro i ⟨kx, vx⟩ hi c p s rfl
    obtain ⟨x, hx⟩ : ∃ x, l[i]? = some x := ⟨_, List.getElem?_eq_getElem (by have := (List.getElem?_eq_some_iff.mp hi).1; rw [hk.1] at this; exact this)⟩
    obtain ⟨e1, e2, b0, b1⟩ := hk.2 i _ x hi hx
    show Bn w b 20 (do let kv ← kx; let vv ← holding [kv] vx; holding [kv, vv] (dictSet (h₀.objs.size + L.length) kv vv); pure (ForInStep.yield PUnit.unit)) p _ _
    refine bn_bind (n := 3) (m := 17) (e1 _ _ _ fun p' => ?_)
    refine bn_bind (n := 3) (m := 14) (bn_holding (e2 _ _ _ fun p' => ?_))
    refine bn_bind (n := 10) (m := 4) (bn_holding ?_)
    refine bn_set hz (get_last L _) ?_ b0 b1 (ent_fresh hr hx) ?_
    · have := (List.getElem?_eq_some_iff.mp hx).1; rw [List.length_take, ent_len]; omega
    · refine bn_le (bn_pure ⟨_, rfl, ?_⟩) (Nat.zero_le _)
      rw [set_last, ← ent_take_succ hx]
      rfl
  · rintro _ p' s' rfl
    refine bn_pure (bn_pure ?_)
    have e : (entries t l).take run.length = entries t l := List.take_of_length_le (by rw [ent_len, hk.1]; exact Nat.le_refl _)
    rw [e, hk.1]
    exact H p'
def vals2 : Nat → List (Int × Str) → List (Value × Value)
  | _, [] => []
  | t, (k, x) :: r => (.int k t, .str x (t + 1)) :: vals2 (t + 2) r
theorem bn_evalPairs {h : Heap} {g : Array GenState} {d : Drawn} {os : OsState} : ∀ (run : List (Sem Value × Sem Value)) (l : List (Int × Str)) (t : Nat) (p : Pos) (Q : List (Value × Value) → Pos → Shared → Prop), Kvs w b run l →
    (∀ p', Q (vals2 t l) p' ⟨h, g, d, t + 2 * l.length, os⟩) → Bn w b (6 * run.length) (evalPairs run) p ⟨h, g, d, t, os⟩ Q
  | [], l, t, p, Q, hk, H => by
    obtain rfl : l = [] := List.length_eq_zero_iff.mp hk.1.symm
    exact bn_pure (H p)
  | (kx, vx) :: run, [], t, p, Q, hk, H => by
    have := hk.1; simp at this
  | (kx, vx) :: run, (k, x) :: l, t, p, Q, hk, H => by
    obtain ⟨e1, e2, _⟩ := hk.2 0 _ _ rfl rfl
    have hk' : Kvs w b run l := ⟨by have := hk.1; simpa using this, fun i m y h1 h2 => hk.2 (i + 1) m y (by simpa using h1) (by simpa using h2)⟩
    unfold evalPairs
    rw [List.length_cons, show 6 * (run.length + 1) = 3 + (3 + 6 * run.length) by omega]
    refine bn_bind (e1 _ _ _ fun p' => ?_)
    refine bn_bind (n := 3) (m := 6 * run.length) (bn_holding (e2 _ _ _ fun p' => ?_))
    refine bn_bind (n := 6 * run.length) (m := 0) (bn_holding (bn_evalPairs run l (t + 2) p' _ hk' fun p' => ?_))
    refine bn_pure ?_
    have := H p'
    rw [List.length_cons, show t + 2 * (l.length + 1) = t + 2 + 2 * l.length by omega] at this
    exact this
theorem ent2_get (l : List (Int × Str)) : ∀ (t i : Nat) (x : Int × Str), l[i]? = some x → (entries2 t l)[i]? = some ⟨x.1, .int x.1 (t + 2 * i), .str x.2 (t + 2 * i + 1)⟩ ∧ (vals2 t l)[i]? = some (.int x.1 (t + 2 * i), .str x.2 (t + 2 * i + 1)) := by
  induction l with
  | nil => intro t i x h; simp at h
  | cons a r ih =>
    intro t i x h
    obtain ⟨k, y⟩ := a
    cases i with
    | zero => cases h; exact ⟨rfl, rfl⟩
    | succ i =>
      have h' : r[i]? = some x := by simpa using h
      show (entries2 (t + 2) r)[i]? = _ ∧ (vals2 (t + 2) r)[i]? = _
      obtain ⟨a, b⟩ := ih (t + 2) _ _ h'
      rw [a, b, show t + 2 + 2 * i = t + 2 * (i + 1) by omega]
      exact ⟨rfl, rfl⟩
theorem ent2_len (t : Nat) (l : List (Int × Str)) : (entries2 t l).length = l.length ∧ (vals2 t l).length = l.length := by
  induction l generalizing t with
  | nil => exact ⟨rfl, rfl⟩
  | cons a r ih => obtain ⟨k, x⟩ := a; obtain ⟨a, b⟩ := ih (t + 2); simp [entries2, vals2, a, b]
theorem ent2_take_succ {t : Nat} {l : List (Int × Str)} {i : Nat} {x : Int × Str} (h : l[i]? = some x) : (entries2 t l).take (i + 1) = (entries2 t l).take i ++ [⟨x.1, .int x.1 (t + 2 * i), .str x.2 (t + 2 * i + 1)⟩] := by
  rw [List.take_succ, (ent2_get l t i x h).1]; rfl
theorem ent2_hash {t : Nat} {l : List (Int × Str)} {i : Nat} {e : DictEntry} (h : e ∈ (entries2 t l).take i) : ∃ j x, j < i ∧ l[j]? = some x ∧ e.hash = x.1 := by
  obtain ⟨j, hj⟩ := List.mem_iff_getElem?.mp h
  rw [List.getElem?_take] at hj
  split at hj
  · rename_i hlt
    have : j < l.length := by
      have := (List.getElem?_eq_some_iff.mp hj).1
      rwa [(ent2_len t l).1] at this
    rw [(ent2_get l t j l[j] (List.getElem?_eq_getElem this)).1] at hj
    cases hj
    exact ⟨j, l[j], hlt, List.getElem?_eq_getElem this, rfl⟩
  · cases hj
theorem ent2_fresh {t : Nat} {l : List (Int × Str)} (hr : Rising l) {i : Nat} {x : Int × Str} (h : l[i]? = some x) : ∀ e ∈ (entries2 t l).take i, e.hash ≠ x.1 := by
  intro e he
  obtain ⟨j, y, hj, hy, e1⟩ := ent2_hash he
  have := hr j i y x hj hy h
  omega
theorem bn_subShort {h₀ : Heap} {L : List Obj} {g : Array GenState} {d : Drawn} {t : Nat} {os : OsState} {run : List (Sem Value × Sem Value)} {l : List (Int × Str)} {Q : Addr → Pos → Shared → Prop} (hz : 11 ≤ h₀.objs.size) (hk : Kvs w b run l) (hr : Rising l)
    (h1 : l.length ≤ 15) (H : ∀ p', Q (h₀.objs.size + L.length) p' ⟨hp h₀ (L ++ [dO (entries2 t l) l.length]), g, d, t + 2 * l.length + l.length, os⟩) : Bn w b (1 + 20 * l.length) (subDict run) p ⟨hp h₀ L, g, d, t, os⟩ Q := by
  unfold subDict
  refine bn_bind (bn_alloc ?_)
  dsimp only
  rw [hp_size, hp_push]
  refine bn_bind (n := 20 * l.length) (m := 0) (bn_holding ?_)
  rw [if_pos (by rw [hk.1]; omega)]
  rw [show 20 * l.length = 6 * run.length + 14 * (vals2 t l).length by rw [(ent2_len t l).2, hk.1]; omega]
  refine bn_bind (bn_evalPairs run l t _ _ hk fun p' => bn_holding ?_)
  refine bn_bind (n := 14 * (vals2 t l).length) (m := 0) ?_
  refine bn_mono (bn_forIn _ 14 (vals2 t l) (fun i _ s => s = ⟨hp h₀ (L ++ [dO ((entries2 t l).take i) i]), g, d, t + 2 * l.length + i, os⟩) ?_ _ _ _ rfl) ?_
  · rintro i ⟨kv, vv⟩ hi c p s rfl
    obtain ⟨x, hx⟩ : ∃ x, l[i]? = some x := ⟨_, List.getElem?_eq_getElem (by have := (List.getElem?_eq_some_iff.mp hi).1; rw [(ent2_len t l).2] at this; exact this)⟩
    have e3 := (ent2_get l t i x hx).2
    rw [hi] at e3
    cases e3
    obtain ⟨run_i, hri⟩ : ∃ m, run[i]? = some m := ⟨_, List.getElem?_eq_getElem (by rw [hk.1]; exact (List.getElem?_eq_some_iff.mp hx).1)⟩
    obtain ⟨_, _, b0, b1⟩ := hk.2 i _ x hri hx
    show Bn w b 14 (do dictSet (h₀.objs.size + L.length) _ _; pure (ForInStep.yield PUnit.unit)) p _ _
    refine bn_bind (n := 10) (m := 4) ?_
    refine bn_set hz (get_last L _) ?_ b0 b1 (ent2_fresh hr hx) ?_
    · have := (List.getElem?_eq_some_iff.mp hx).1; rw [List.length_take, (ent2_len t l).1]; omega
    · refine bn_le (bn_pure ⟨_, rfl, ?_⟩) (Nat.zero_le _)
      rw [set_last, ← ent2_take_succ hx]
      rfl
  · rintro _ p' s' rfl
    refine bn_pure (bn_pure ?_)
    have e : (entries2 t l).take (vals2 t l).length = entries2 t l := List.take_of_length_le (by rw [(ent2_len t l).1, (ent2_len t l).2]; exact Nat.le_refl _)
    rw [e, (ent2_len t l).2]
    exact H p'
end
end
end Mine
namespace Mine
noncomputable section
section
variable {w : World} {b : List Stmt} {α β : Type} {p : Pos} {s : Shared} {n m : Nat}
theorem bn_pureBind {a : α} {f : α → Sem β} {Q : β → Pos → Shared → Prop} (h : Bn w b m (f a) p s Q) : Bn w b m (pure a >>= f) p s Q := h
theorem sub_dict : isSubtype (.type "dict") (.type "dict") = pure true := by rw [isSubtype_type]; kernel_rfl!
theorem iter_dict : typeLookup (.type "dict") "__iter__" = pure (some (.builtin "dict.__iter__")) := by kernel_rfl!
theorem bn_merge {h₀ : Heap} {L : List Obj} {j i0 : Nat} {g : Array GenState} {d : Drawn} {t : Nat} {os : OsState} {es es' : List DictEntry} {n n' : Nat} {Q : Unit → Pos → Shared → Prop} (hz : 11 ≤ h₀.objs.size) (hne : j ≠ i0) (hs : (h₀.objs.size + i0 == sysModules) = false)
    (e1 : L[j]? = some (dO es n)) (e2 : L[i0]? = some (dO es' n')) (h0 : es ≠ []) (hl : es.length + es'.length ≤ 1000) (hkey : ∀ e ∈ es', ∃ tk, e.key = .int e.hash tk)
    (hris : ∀ (i k : Nat) (x y : DictEntry), i < k → (es ++ es')[i]? = some x → (es ++ es')[k]? = some y → x.hash < y.hash)
    (H : ∀ p', Q () p' ⟨hp h₀ (L.set j (dO (es ++ es') (n + es'.length))), g, d, t, os⟩) :
    Bn w b (8 + 8 * es'.length) (mergeMapping (h₀.objs.size + j) (.ref (h₀.objs.size + i0)) false) p ⟨hp h₀ L, g, d, t, os⟩ Q := by
  unfold mergeMapping
  rw [show 8 + 8 * es'.length = 2 + (6 + 8 * es'.length) by omega]
  refine bn_bind (n := 2) ?_
  refine bn_bind (n := 1) (m := 1) ?_
  refine bn_bind (n := 1) (m := 0) (bn_load (s := ⟨hp h₀ L, g, d, t, os⟩) (hp_get e2) ?_)
  refine bn_pure ?_
  show Bn w b 1 (isSubtype (.type "dict") (.type "dict")) p _ _
  rw [sub_dict]
  refine bn_le (bn_pure ?_) (Nat.zero_le _)
  rw [if_pos rfl]
  rw [show 6 + 8 * es'.length = 1 + (5 + 8 * es'.length) by omega]
  refine bn_bind (n := 1) ?_
  refine bn_bind (n := 1) (m := 0) ?_
  refine bn_bind (n := 1) (m := 0) (bn_load (s := ⟨hp h₀ L, g, d, t, os⟩) (hp_get e2) ?_)
  refine bn_pure ?_
  show Bn w b 0 (typeLookup (.type "dict") "__iter__") p _ _
  rw [iter_dict]
  refine bn_pure ?_
  have hq : (some (Value.builtin "dict.__iter__") == some (Value.builtin "dict.__iter__")) = true := by decide
  rw [hq]
  refine bn_pureBind ?_
  dsimp only
  rw [if_neg (by rw [hs]; decide)]
  rw [show 5 + 8 * es'.length = 1 + (4 + 8 * es'.length) by omega]
  refine bn_bind (n := 1) (bn_bind (n := 1) (m := 0) (bn_load (s := ⟨hp h₀ L, g, d, t, os⟩) (hp_get e1) (bn_pure ?_)))
  rw [if_neg (by cases es with | nil => exact absurd rfl h0 | cons a r => simp)]
  rw [show 4 + 8 * es'.length = 1 + (1 + (8 * es'.length + 2)) by omega]
  refine bn_bind (n := 1) (bn_bind (n := 1) (m := 0) (bn_load (s := ⟨hp h₀ L, g, d, t, os⟩) (hp_get e2) (bn_pure ?_)))
  refine bn_bind (n := 1) (bn_bind (n := 1) (m := 0) (bn_load (s := ⟨hp h₀ L, g, d, t, os⟩) (hp_get e2) (bn_pure ?_)))
  rw [List.size_toArray, show 8 * es'.length = 8 * (List.range es'.length).length by rw [List.length_range]]
  refine bn_bind (m := 2) (bn_mono (bn_forIn _ 8 (List.range es'.length) (fun i _ s => s = ⟨hp h₀ (L.set j (dO (es ++ es'.take i) (n + i))), g, d, t, os⟩) ?_ _ _ _ ?_) ?_)
  · rintro i i' hi c p s rfl
    have hlt : i < es'.length := by have := (List.getElem?_eq_some_iff.mp hi).1; rwa [List.length_range] at this
    obtain rfl : i = i' := by rw [List.getElem?_range hlt] at hi; exact Option.some.inj hi
    have hx : es'[i]? = some es'[i] := List.getElem?_eq_getElem hlt
    have hj : j < L.length := (List.getElem?_eq_some_iff.mp e1).1
    have E1 : (L.set j (dO (es ++ es'.take i) (n + i)))[j]? = some (dO (es ++ es'.take i) (n + i)) := List.getElem?_set_self hj
    have E2 : ∀ o, (L.set j o)[i0]? = some (dO es' n') := fun o => by rw [List.getElem?_set_ne hne]; exact e2
    obtain ⟨tk, hk⟩ := hkey _ (List.mem_of_getElem? hx)
    refine bn_bind (n := 1) (m := 7) (bn_bind (n := 1) (m := 0) (bn_load (s := ⟨hp h₀ _, g, d, t, os⟩) (hp_get (E2 _)) (bn_pure ?_)))
    rw [List.getElem?_toArray, hx]
    refine bn_bind (n := 4) (m := 3) (bn_holding ?_)
    rw [if_neg (by decide), hk]
    refine bn_put hz E1 ?_ ?_ ?_
    · rw [List.length_append, List.length_take]; omega
    · intro e he
      obtain ⟨q, hq⟩ := List.mem_iff_getElem?.mp he
      have hq2 : q < es.length + i ∧ (es ++ es')[q]? = some e := by
        have := (List.getElem?_eq_some_iff.mp hq).1
        rw [List.length_append, List.length_take] at this
        refine ⟨by omega, ?_⟩
        by_cases hql : q < es.length
        · rw [List.getElem?_append_left hql] at hq ⊢; exact hq
        · rw [List.getElem?_append_right (by omega)] at hq ⊢
          rw [List.getElem?_take] at hq
          split at hq
          · exact hq
          · cases hq
      have := hris q (es.length + i) e es'[i] hq2.1 hq2.2 (by rw [List.getElem?_append_right (by omega), Nat.add_sub_cancel_left]; exact hx)
      omega
    · refine bn_bind (n := 1) (m := 2) (bn_bind (n := 1) (m := 0) (bn_load (s := ⟨hp h₀ _, g, d, t, os⟩) (hp_get (es := es') (n := n') ?_) (bn_pure ?_)))
      · rw [List.set_set]; exact E2 _
      · rw [if_neg (by simp)]
        refine bn_le (bn_pure ⟨_, rfl, ?_⟩) (Nat.zero_le _)
        have ht : es'.take (i + 1) = es'.take i ++ [es'[i]] := by rw [List.take_succ, hx]; rfl
        rw [List.set_set, ht, ← hk, List.append_assoc, Nat.add_assoc]
  · have : L.set j (dO (es ++ es'.take 0) (n + 0)) = L := by
      rw [List.take_zero, List.append_nil]
      have hj : j < L.length := (List.getElem?_eq_some_iff.mp e1).1
      apply List.ext_getElem?
      intro q
      by_cases hq : j = q
      · subst hq; rw [List.getElem?_set_self hj]; exact e1.symm
      · rw [List.getElem?_set_ne hq]
    rw [this]
  · rintro _ p' s' rfl
    rw [List.length_range, List.take_of_length_le (Nat.le_refl _)]
    exact bn_le (bn_pure (H p')) (Nat.zero_le _)
end
end
end Mine
namespace Mine
noncomputable section
section
variable {w : World} {b : List Stmt} {α β : Type} {p : Pos} {s : Shared} {n m : Nat}
theorem ent_take (l : List (Int × Str)) : ∀ (t i : Nat), (entries t l).take i = entries t (l.take i) := by
  induction l with
  | nil => intro t i; simp [entries]
  | cons a r ih =>
    intro t i
    obtain ⟨k, x⟩ := a
    cases i with
    | zero => simp [entries]
    | succ i => simp [entries, ih]
theorem ent_drop (l : List (Int × Str)) : ∀ (t i : Nat), (entries t l).drop i = entries (t + 3 * i) (l.drop i) := by
  induction l with
  | nil => intro t i; simp [entries]
  | cons a r ih =>
    intro t i
    obtain ⟨k, x⟩ := a
    cases i with
    | zero => simp [entries]
    | succ i =>
      show (entries (t + 3) r).drop i = entries (t + 3 * (i + 1)) (r.drop i)
      rw [ih, show t + 3 + 3 * i = t + 3 * (i + 1) by omega]
def flushS (run : List (Sem Value × Sem Value)) (main : Option Addr) : Sem (Option Addr) :=
  if run.isEmpty = true then pure main
  else match main with
    | none => do
      let x ← subDict run
      pure (some x)
    | some d => do
      let sub ← holding [Value.ref d] (subDict run)
      (holding [Value.ref d, Value.ref sub] (mergeMapping d (Value.ref sub) false)).onRaise fun x => do
        let _ ← holding [Value.ref d, x] (runValue (Code.builtin "proto.let_go" { }))
        pure ()
      pure (some d)
theorem run_ne {run : List (Sem Value × Sem Value)} {l : List (Int × Str)} (hk : Kvs w b run l) (h : 0 < l.length) : ¬ run.isEmpty = true := by
  have := hk.1
  cases run with
  | nil => simp at this; omega
  | cons a r => simp
theorem bn_flush0 {h₀ : Heap} {g : Array GenState} {d : Drawn} {t : Nat} {os : OsState} {run : List (Sem Value × Sem Value)} {l : List (Int × Str)} {Q : Option Addr → Pos → Shared → Prop} (hz : 11 ≤ h₀.objs.size) (hk : Kvs w b run l) (hr : Rising l)
    (h1 : l.length = 17) (H : ∀ p', Q (some h₀.objs.size) p' ⟨hp h₀ [dO (entries t l) 17], g, d, t + 51, os⟩) : Bn w b 500 (flushS run none) p ⟨hp h₀ [], g, d, t, os⟩ Q := by
  unfold flushS
  rw [if_neg (run_ne hk (by omega))]
  refine bn_bind (n := 2 + 20 * 17) (m := 158) ?_
  rw [← h1]
  refine bn_subLong hz hk hr (by omega) (by omega) fun p' => ?_
  refine bn_le (bn_pure ?_) (Nat.zero_le _)
  rw [h1]
  exact H p'
theorem ent_key {t : Nat} {l : List (Int × Str)} : ∀ e ∈ entries t l, ∃ tk, e.key = .int e.hash tk := by
  induction l generalizing t with
  | nil => intro e h; simp [entries] at h
  | cons a r ih =>
    obtain ⟨k, x⟩ := a
    intro e h
    rcases List.mem_cons.mp h with rfl | h
    · exact ⟨_, rfl⟩
    · exact ih e h
theorem ent2_key {t : Nat} {l : List (Int × Str)} : ∀ e ∈ entries2 t l, ∃ tk, e.key = .int e.hash tk := by
  induction l generalizing t with
  | nil => intro e h; simp [entries2] at h
  | cons a r ih =>
    obtain ⟨k, x⟩ := a
    intro e h
    rcases List.mem_cons.mp h with rfl | h
    · exact ⟨_, rfl⟩
    · exact ih e h
theorem bn_flushG {h₀ : Heap} {L : List Obj} {g : Array GenState} {d : Drawn} {t t' : Nat} {os : OsState} {run : List (Sem Value × Sem Value)} {E es : List DictEntry} {n : Nat} {Q : Option Addr → Pos → Shared → Prop} (hz : h₀.objs.size = 134) (hne : ¬ run.isEmpty = true)
    (hsub : ∀ Q' : Addr → Pos → Shared → Prop, (∀ p', Q' (h₀.objs.size + L.length) p' ⟨hp h₀ (L ++ [dO E E.length]), g, d, t', os⟩) → Bn w b 342 (subDict run) p ⟨hp h₀ L, g, d, t, os⟩ Q')
    (h1 : E.length ≤ 17) (e1 : L[0]? = some (dO es n)) (h0 : es ≠ []) (hl : es.length ≤ 900) (hkey : ∀ e ∈ E, ∃ tk, e.key = .int e.hash tk)
    (hris : ∀ (i k : Nat) (x y : DictEntry), i < k → (es ++ E)[i]? = some x → (es ++ E)[k]? = some y → x.hash < y.hash)
    (H : ∀ p', Q (some h₀.objs.size) p' ⟨hp h₀ ((L ++ [dO E E.length]).set 0 (dO (es ++ E) (n + E.length))), g, d, t', os⟩) : Bn w b 500 (flushS run (some h₀.objs.size)) p ⟨hp h₀ L, g, d, t, os⟩ Q := by
  have hL : 0 < L.length := (List.getElem?_eq_some_iff.mp e1).1
  unfold flushS
  rw [if_neg hne]
  refine bn_bind (n := 342) (m := 158) (bn_holding (hsub _ fun p' => ?_))
  refine bn_bind (n := 158) (m := 0) (bn_onRaise (bn_holding ?_))
  refine bn_le (n := 8 + 8 * E.length) ?_ (by omega)
  refine bn_merge (j := 0) (i0 := L.length) (by omega) (by omega) ?_ (by rw [List.getElem?_append_left hL]; exact e1) (get_last L _) h0 (by omega) hkey hris fun p' => bn_pure (H p')
  rw [beq_eq_false_iff_ne]
  show h₀.objs.size + L.length ≠ 1
  omega
/-- the objects behind q whole runs -/
def Lq (E : List DictEntry) (q : Nat) : List Obj := if q = 0 then [] else dO (E.take (17 * q)) (17 * q) :: (List.range (q - 1)).map (fun i => dO ((E.drop (17 * (i + 1))).take 17) 17)
theorem Lq_succ (E : List DictEntry) (q : Nat) (hq : q ≠ 0) : (Lq E q ++ [dO ((E.drop (17 * q)).take 17) 17]).set 0 (dO (E.take (17 * (q + 1))) (17 * (q + 1))) = Lq E (q + 1) := by
  obtain ⟨r, rfl⟩ : ∃ r, q = r + 1 := ⟨q - 1, by omega⟩
  unfold Lq
  rw [if_neg (by omega), if_neg (by omega)]
  simp only [List.cons_append, List.set_cons_zero, Nat.add_sub_cancel, List.range_succ, List.map_append, List.map_cons, List.map_nil]
def Its (w : World) (b : List Stmt) (items : List (Option (Sem Value) × Sem Value)) (l : List (Int × Str)) : Prop :=
  items.length = l.length ∧ ∀ (i : Nat) (m : Option (Sem Value) × Sem Value) (x : Int × Str), items[i]? = some m → l[i]? = some x → ∃ km, m.1 = some km ∧ IsK w b km x.1 ∧ IsV w b m.2 x.2 ∧ 0 ≤ x.1 ∧ x.1 ≤ 1114111
theorem kvs_snoc {run : List (Sem Value × Sem Value)} {l : List (Int × Str)} {km vm : Sem Value} {x : Int × Str} (hk : Kvs w b run l) (h1 : IsK w b km x.1) (h2 : IsV w b vm x.2) (h3 : 0 ≤ x.1) (h4 : x.1 ≤ 1114111) : Kvs w b (run ++ [(km, vm)]) (l ++ [x]) := by
  refine ⟨by simp [hk.1], fun i m y hm hy => ?_⟩
  by_cases hi : i < l.length
  · rw [List.getElem?_append_left (by rw [hk.1]; exact hi)] at hm
    rw [List.getElem?_append_left hi] at hy
    exact hk.2 i m y hm hy
  · rw [List.getElem?_append_right (by rw [hk.1]; omega)] at hm
    rw [List.getElem?_append_right (by omega)] at hy
    have hlt := (List.getElem?_eq_some_iff.mp hy).1
    rw [List.length_singleton] at hlt
    rw [hk.1] at hm
    rw [show i - l.length = 0 by omega] at hm hy
    cases hm
    cases hy
    exact ⟨h1, h2, h3, h4⟩
theorem rising_drop {l : List (Int × Str)} (h : Rising l) (n : Nat) : Rising (l.drop n) := fun i j x y hij hx hy => h (n + i) (n + j) x y (by omega) (by rwa [List.getElem?_drop] at hx) (by rwa [List.getElem?_drop] at hy)
theorem take_some {α : Type} {l : List α} {n i : Nat} {x : α} (h : (l.take n)[i]? = some x) : l[i]? = some x := by
  rw [List.getElem?_take] at h
  split at h
  · exact h
  · cases h
theorem rising_take {l : List (Int × Str)} (h : Rising l) (n : Nat) : Rising (l.take n) := fun i j x y hij hx hy => h i j x y hij (take_some hx) (take_some hy)
theorem ent_hash_at {t : Nat} {l : List (Int × Str)} {i : Nat} {e : DictEntry} (h : (entries t l)[i]? = some e) : ∃ x, l[i]? = some x ∧ e.hash = x.1 := by
  have : i < l.length := by have := (List.getElem?_eq_some_iff.mp h).1; rwa [ent_len] at this
  rw [ent_get l t i l[i] (List.getElem?_eq_getElem this)] at h
  cases h
  exact ⟨l[i], List.getElem?_eq_getElem this, rfl⟩
theorem ent2_hash_at {t : Nat} {l : List (Int × Str)} {i : Nat} {e : DictEntry} (h : (entries2 t l)[i]? = some e) : ∃ x, l[i]? = some x ∧ e.hash = x.1 := by
  have : i < l.length := by have := (List.getElem?_eq_some_iff.mp h).1; rwa [(ent2_len t l).1] at this
  rw [(ent2_get l t i l[i] (List.getElem?_eq_getElem this)).1] at h
  cases h
  exact ⟨l[i], List.getElem?_eq_getElem this, rfl⟩
def allE (t : Nat) (l : List (Int × Str)) : List DictEntry := entries t (l.take 646) ++ entries2 (t + 1938) (l.drop 646)
def Lfin (t : Nat) (l : List (Int × Str)) : List Obj := (Lq (entries t l) 38 ++ [dO (entries2 (t + 1938) (l.drop 646)) 4]).set 0 (dO (allE t l) 650)
theorem bn_display {h₀ : Heap} {g : Array GenState} {d : Drawn} {t : Nat} {os : OsState} {items : List (Option (Sem Value) × Sem Value)} {l : List (Int × Str)} {Q : Value → Pos → Shared → Prop} (hz : h₀.objs.size = 134) (hi : Its w b items l) (hr : Rising l) (hl : l.length = 650)
    (H : ∀ p', Q (.ref h₀.objs.size) p' ⟨hp h₀ (Lfin t l), g, d, t + 1950, os⟩) : Bn w b (500 * 650 + 500) (dictDisplay items) p ⟨hp h₀ [], g, d, t, os⟩ Q := by
  have hil : items.length = 650 := by rw [hi.1, hl]
  unfold dictDisplay
  dsimp only
  rw [show 500 * 650 = 500 * items.length by rw [hil]]
  refine bn_bind (n := 500 * items.length) (m := 500) (bn_mono (bn_forIn _ 500 items (fun i st s => st.1 = (if i / 17 = 0 then none else some h₀.objs.size) ∧ Kvs w b st.2 ((l.drop (17 * (i / 17))).take (i % 17)) ∧ s = ⟨hp h₀ (Lq (entries t l) (i / 17)), g, d, t + 51 * (i / 17), os⟩) ?_ _ _ _ ?_) ?_)
  · rintro i ⟨ko, vm⟩ hit ⟨main, run⟩ p s ⟨hm, hk, rfl⟩
    dsimp only at hm hk
    have hlt : i < 650 := by have := (List.getElem?_eq_some_iff.mp hit).1; omega
    obtain ⟨x, hx⟩ : ∃ x, l[i]? = some x := ⟨_, List.getElem?_eq_getElem (by omega)⟩
    obtain ⟨km, hko, k1, k2, k3, k4⟩ := hi.2 i _ x hit hx
    dsimp only at hko k2
    subst hko
    have hk' := kvs_snoc hk k1 k2 k3 k4
    have hx' : (l.drop (17 * (i / 17)))[i % 17]? = some x := by rw [List.getElem?_drop, show 17 * (i / 17) + i % 17 = i by omega]; exact hx
    have ht : (l.drop (17 * (i / 17))).take (i % 17) ++ [x] = (l.drop (17 * (i / 17))).take (i % 17 + 1) := by rw [List.take_succ, hx']; rfl
    rw [ht] at hk'
    have hlen : (run ++ [(km, vm)]).length = i % 17 + 1 := by
      rw [hk'.1, List.length_take, List.length_drop]; omega
    dsimp only
    by_cases h17 : i % 17 = 16
    · rw [if_pos (by rw [hlen, h17]; rfl)]
      have hd : (i + 1) / 17 = i / 17 + 1 := by omega
      have hm0 : (i + 1) % 17 = 0 := by omega
      refine bn_bind (n := 500) (m := 0) ?_
      show Bn w b 500 (flushS (run ++ [(km, vm)]) main) p _ _
      rw [h17] at hk'
      replace hk' : Kvs w b (run ++ [(km, vm)]) ((l.drop (17 * (i / 17))).take 17) := hk'
      have hcl : ((l.drop (17 * (i / 17))).take 17).length = 17 := by rw [List.length_take, List.length_drop]; omega
      have hrc := rising_take (rising_drop hr (17 * (i / 17))) 17
      by_cases h0 : i / 17 = 0
      · rw [hm, if_pos h0]
        rw [h0] at hk' hcl hrc ⊢
        rw [show Lq (entries t l) 0 = [] from rfl]
        refine bn_flush0 (by omega) hk' hrc hcl fun p' => bn_pure ⟨_, rfl, ?_, ?_, ?_⟩
        · rw [hd, h0]; rfl
        · rw [hm0, List.take_zero]; exact ⟨rfl, fun i m x h => by simp at h⟩
        · rw [hd, h0]
          have : entries (t + 51 * 0) ((l.drop (17 * 0)).take 17) = (entries t l).take 17 := by rw [ent_take]; simp
          rw [this]; rfl
      · rw [hm, if_neg h0]
        have hE : entries (t + 51 * (i / 17)) ((l.drop (17 * (i / 17))).take 17) = ((entries t l).drop (17 * (i / 17))).take 17 := by
          rw [ent_drop, ent_take, show 3 * (17 * (i / 17)) = 51 * (i / 17) by omega]
        have hEl : (((entries t l).drop (17 * (i / 17))).take 17).length = 17 := by rw [List.length_take, List.length_drop, ent_len]; omega
        have hcat : (entries t l).take (17 * (i / 17)) ++ ((entries t l).drop (17 * (i / 17))).take 17 = (entries t l).take (17 * (i / 17 + 1)) := by
          rw [Nat.mul_succ, List.take_add]
        refine bn_flushG (t' := t + 51 * (i / 17) + 51) (n := 17 * (i / 17)) hz (run_ne hk' (by omega)) (E := ((entries t l).drop (17 * (i / 17))).take 17) (es := (entries t l).take (17 * (i / 17))) ?_ (by omega) ?_ ?_ ?_ ?_ ?_ fun p' => bn_pure ⟨_, rfl, ?_, ?_, ?_⟩
        · intro Q' hQ
          refine bn_le (n := 2 + 20 * ((l.drop (17 * (i / 17))).take 17).length) (bn_subLong (by omega) hk' hrc (by omega) (by omega) fun p' => ?_) (by omega)
          have := hQ p'
          rw [hE]
          rw [hEl] at this
          rw [hcl]
          exact this
        · unfold Lq; rw [if_neg h0]; rfl
        · intro e
          have := congrArg List.length e
          rw [List.length_take, ent_len, List.length_nil] at this
          omega
        · rw [List.length_take, ent_len]; omega
        · intro e he
          exact ent_key e (List.mem_of_mem_drop (List.mem_of_mem_take he))
        · rw [hcat]
          intro a c x y hac hx hy
          obtain ⟨x', hx', ex⟩ := ent_hash_at (take_some hx)
          obtain ⟨y', hy', ey⟩ := ent_hash_at (take_some hy)
          rw [ex, ey]
          exact hr a c x' y' hac hx' hy'
        · rw [hd, if_neg (by omega)]
        · rw [hm0, List.take_zero]; exact ⟨rfl, fun i m x h => by simp at h⟩
        · rw [hcat, hEl, hd, show 17 * (i / 17) + 17 = 17 * (i / 17 + 1) by omega, Lq_succ _ _ h0]
          refine congrArg (fun t => (⟨_, _, _, t, _⟩ : Shared)) ?_
          omega
    · rw [if_neg (by rw [hlen]; simp; omega)]
      have hd : (i + 1) / 17 = i / 17 := by omega
      have hm1 : (i + 1) % 17 = i % 17 + 1 := by omega
      refine bn_le (bn_pure ⟨_, rfl, ?_, ?_, ?_⟩) (Nat.zero_le _)
      · rw [hd]; exact hm
      · rw [hd, hm1]; exact hk'
      · rw [hd]
  · refine ⟨rfl, ⟨rfl, fun i m x h => by simp at h⟩, rfl⟩
  · rintro ⟨main, run⟩ p' s' ⟨hm, hk, rfl⟩
    rw [hil] at hm hk ⊢
    dsimp only at hm hk ⊢
    rw [show 650 / 17 = 38 by decide] at hm hk ⊢
    rw [if_neg (by decide)] at hm
    rw [show 650 % 17 = 4 by decide, show 17 * 38 = 646 by decide] at hk
    have h4 : (l.drop 646).take 4 = l.drop 646 := List.take_of_length_le (by rw [List.length_drop]; omega)
    have h4l : (l.drop 646).length = 4 := by rw [List.length_drop]; omega
    rw [h4] at hk
    refine bn_bind (n := 500) (m := 0) ?_
    show Bn w b 500 (flushS run main) p' _ _
    rw [hm]
    have hE2 : (entries2 (t + 1938) (l.drop 646)).length = 4 := by rw [(ent2_len _ _).1]; exact h4l
    have hcut : (entries t l).take 646 = entries t (l.take 646) := ent_take l t 646
    refine bn_flushG (n := 646) hz (run_ne hk (by omega)) (E := entries2 (t + 1938) (l.drop 646)) (es := (entries t l).take 646) (t' := t + 1950) ?_ (by omega) ?_ ?_ ?_ ?_ ?_ fun p' => bn_pure ?_
    · intro Q' hQ
      refine bn_le (n := 1 + 20 * (l.drop 646).length) (bn_subShort (by omega) hk (rising_drop hr 646) (by omega) fun p' => ?_) (by omega)
      have := hQ p'
      rw [hE2] at this
      rw [h4l, show t + 51 * 38 = t + 1938 by omega]
      exact this
    · rfl
    · intro e
      have := congrArg List.length e
      rw [List.length_take, ent_len, List.length_nil] at this
      omega
    · rw [List.length_take, ent_len]; omega
    · exact ent2_key
    · intro a c x y hac hx hy
      have hat : ∀ (q : Nat) (z : DictEntry), ((entries t l).take 646 ++ entries2 (t + 1938) (l.drop 646))[q]? = some z → ∃ z', l[q]? = some z' ∧ z.hash = z'.1 := by
        intro q z hz
        have hlen : ((entries t l).take 646).length = 646 := by rw [List.length_take, ent_len]; omega
        by_cases hq : q < 646
        · rw [List.getElem?_append_left (by omega)] at hz
          exact ent_hash_at (take_some hz)
        · rw [List.getElem?_append_right (by omega), hlen] at hz
          obtain ⟨z', h1, h2⟩ := ent2_hash_at hz
          rw [List.getElem?_drop, show 646 + (q - 646) = q by omega] at h1
          exact ⟨z', h1, h2⟩
      obtain ⟨x', hx', ex⟩ := hat a x hx
      obtain ⟨y', hy', ey⟩ := hat c y hy
      rw [ex, ey]
      exact hr a c x' y' hac hx' hy'
    · have := H p'
      rw [hE2, hcut]
      exact this
end
end
end Mine
namespace Mine
noncomputable section
noncomputable abbrev twGoT := PySem.W.Fast.tw10295753902157049106
noncomputable abbrev twBind := PySem.W.Fast.tw7536695828754713326
theorem bindD (w : World) (b : List Stmt) (os : OsState) (K : Unit → Sem PySem.Fin) (H : Value → Sem PySem.Fin) (gd : Bool → Bool) (lv : List Value → List Value) (p : Pos) :
    twGoT twTab prog w 11 (some (.ref 6)) 1 6 (SD w os) ⟨(twBind top.env_1 "b3_exceptions" (.ref 134)).wrap K H gd lv, cB b, p, stk⟩ = some (S18 w os, ⟨K (), cB b, p, stk⟩) := by
  kernel_rfl!
theorem listD (P : Params) : (TD P).list 173 = (T17 P).list 134 ++ Lfin 395 pairs := by kernel_rfl!
def isKc : Expr → Bool
  | .Constant (.int k) _ _ => decide (0 ≤ k) && decide (k ≤ 1114111)
  | _ => false
def isVc : Expr → Bool
  | .Constant (.str _) _ _ => true
  | _ => false
def risingB : List (Int × Str) → Bool
  | a :: b :: r => decide (a.1 < b.1) && risingB (b :: r)
  | _ => true
theorem rising_of : ∀ (l : List (Int × Str)), risingB l = true → Rising l
  | [], _ => fun i j x y _ h => by simp at h
  | [a], _ => fun i j x y hij hx hy => by
    have := (List.getElem?_eq_some_iff.mp hy).1
    rw [List.length_singleton] at this
    omega
  | a :: b :: r, h => by
    unfold risingB at h
    rw [Bool.and_eq_true, decide_eq_true_eq] at h
    have ih := rising_of (b :: r) h.2
    intro i j x y hij hx hy
    obtain ⟨j, rfl⟩ : ∃ k, j = k + 1 := ⟨j - 1, by omega⟩
    rw [List.getElem?_cons_succ] at hy
    cases i with
    | zero =>
      cases hx
      cases j with
      | zero => cases hy; exact h.1
      | succ j => have := ih 0 (j + 1) b y (by omega) rfl hy; omega
    | succ i =>
      rw [List.getElem?_cons_succ] at hx
      exact ih i j x y (by omega) hx hy
theorem keys_ok : (dKeys.all isKc && dVals.all isVc && Nat.beq dKeys.length 650 && Nat.beq dVals.length 650 && risingB pairs) = true := by kernel_rfl!
def np18 : Pos := match stm 18 with
  | .Assign [.Name _ p] _ _ => p
  | _ => default
def dp18 : Pos := match stm 18 with
  | .Assign _ (.Dict _ _ p) _ => p
  | _ => default
def sp18 : Pos := match stm 18 with
  | .Assign _ _ p => p
  | _ => default
theorem stm18 : stm 18 = .Assign [.Name "b3_exceptions" np18] (.Dict (dKeys.map some) dVals dp18) sp18 := by kernel_rfl!
theorem np18_eq : np18 = p18 := by kernel_rfl!
theorem evalEach_get (env : Env) : ∀ (es : List Expr) (i : Nat), (evalEach es env)[i]? = (es[i]?).map (fun e => eval e env)
  | [], i => by simp [evalEach]
  | e :: r, 0 => by simp [evalEach]
  | e :: r, i + 1 => by
    show (eval e env :: evalEach r env)[i + 1]? = _
    rw [List.getElem?_cons_succ, List.getElem?_cons_succ]; exact evalEach_get env r i
theorem evalEachOpt_get (env : Env) : ∀ (es : List Expr) (i : Nat), (evalEachOpt (es.map some) env)[i]? = (es[i]?).map (fun e => some (eval e env))
  | [], i => by simp [evalEachOpt]
  | e :: r, 0 => by rfl
  | e :: r, i + 1 => by
    show (evalOpt (some e) env :: evalEachOpt (r.map some) env)[i + 1]? = _
    rw [List.getElem?_cons_succ, List.getElem?_cons_succ]; exact evalEachOpt_get env r i
theorem getOf_len {α β : Type} {l : List α} {m : List β} (f : α → β) (h : ∀ i : Nat, m[i]? = (l[i]?).map f) : m.length = l.length := by
  have : m = l.map f := List.ext_getElem? fun i => by rw [h, List.getElem?_map]
  rw [this, List.length_map]
theorem its18 (w : World) (b : List Stmt) (env : Env) (dp : Pos) : Its w b ((evalEachOpt (dKeys.map some) env).zip ((evalEach dVals env).map fun v => do let x ← v; standAt dp; pure x)) pairs := by
  have hk := keys_ok
  simp only [Bool.and_eq_true] at hk
  obtain ⟨⟨⟨⟨k1, k2⟩, k3⟩, k4⟩, k5⟩ := hk
  have l1 := Nat.eq_of_beq_eq_true k3
  have l2 := Nat.eq_of_beq_eq_true k4
  refine ⟨?_, fun i m x hm hx => ?_⟩
  · rw [List.length_zip, List.length_map, getOf_len _ (evalEachOpt_get env dKeys), getOf_len _ (evalEach_get env dVals)]
    unfold pairs
    rw [List.length_zip, List.length_map, List.length_map]
  · unfold pairs at hx
    rw [List.getElem?_zip_eq_some] at hm hx
    obtain ⟨m1, m2⟩ := hm
    obtain ⟨x1, x2⟩ := hx
    rw [evalEachOpt_get] at m1
    rw [List.getElem?_map, evalEach_get] at m2
    rw [List.getElem?_map] at x1 x2
    obtain ⟨ke, hke, e1⟩ := Option.map_eq_some_iff.mp m1
    obtain ⟨ve', hve', e2⟩ := Option.map_eq_some_iff.mp m2
    obtain ⟨ve, hve, e3⟩ := Option.map_eq_some_iff.mp hve'
    rw [hke] at x1
    rw [hve] at x2
    have c1 := List.all_eq_true.mp k1 ke (List.mem_of_getElem? hke)
    have c2 := List.all_eq_true.mp k2 ve (List.mem_of_getElem? hve)
    unfold isKc at c1
    split at c1
    · rename_i kk _ _
      unfold isVc at c2
      split at c2
      · rename_i xx _ _
        rw [Bool.and_eq_true, decide_eq_true_eq, decide_eq_true_eq] at c1
        obtain rfl : kk = x.1 := Option.some.inj x1
        obtain rfl : xx = x.2 := Option.some.inj x2
        refine ⟨_, e1.symm, ?_, ?_, c1.1, c1.2⟩
        · intro p s Q H
          exact bn_le (n := 1) (bn_bind (n := 1) (m := 0) (bn_fresh (bn_pure (H p)))) (by decide)
        · rw [← e2, ← e3]
          intro p s Q H
          refine bn_le (n := 2) (bn_bind (n := 1) (m := 1) (bn_bind (n := 1) (m := 0) (bn_fresh (bn_pure ?_)))) (by decide)
          exact bn_bind (n := 1) (m := 0) (bn_at (bn_pure (H _)))
      · cases c2
    · cases c1
theorem heapD (w : World) (os : OsState) : (SD w os).abs = ⟨hp (S17 w os).abs.heap (Lfin 395 pairs), ⟨[]⟩, {}, 2345, os⟩ := by
  show (⟨⟨((TD w.params).list 173).toArray, {}⟩, ⟨[]⟩, {}, 2345, os⟩ : Shared) = ⟨⟨((T17 w.params).list 134).toArray ++ (Lfin 395 pairs).toArray, {}⟩, ⟨[]⟩, {}, 2345, os⟩
  rw [listD, List.append_toArray]
theorem heap17 (w : World) (os : OsState) : (S17 w os).abs = ⟨hp (S17 w os).abs.heap [], ⟨[]⟩, {}, 395, os⟩ := by
  show (⟨⟨((T17 w.params).list 134).toArray, {}⟩, ⟨[]⟩, {}, 395, os⟩ : Shared) = ⟨⟨((T17 w.params).list 134).toArray ++ #[], {}⟩, ⟨[]⟩, {}, 395, os⟩
  rw [Array.append_empty]
theorem sw18 (env : Env) : swapsWith (.Dict (dKeys.map some) dVals dp18) (some (.Name "b3_exceptions" np18)) sp18.line env = pure false := by kernel_rfl!
def M18 : Nat := 1 + (1 + (500 * 650 + 500) + (1 + 6)) + 1
theorem end1 (w : World) (s : Shared) (f : Flow) (c : Code) (p : Pos) : sR w 1 s ⟨doneF f, c, p, stk⟩ = some (f, s, c, p) := rfl
theorem pc18 (w : World) (os : OsState) (b : List Stmt) : segRun treeTable prog w 11 (some (.ref 6)) 1 M18 (S17 w os).abs (pieceOf (stm 18) top.env_1 (cB b) p17 stk) = some (.next, (S18 w os).abs, cB b, p18) := by
  have h17 : (S17 w os).abs.heap.objs.size = 134 := absHeap_size _ _ _
  have hk := keys_ok
  simp only [Bool.and_eq_true] at hk
  have hB : Bn w b (1 + (1 + (500 * 650 + 500) + (1 + 6))) (exec (stm 18) top.env_1) p17 (S17 w os).abs (fun f p' s' => f = .next ∧ p' = p18 ∧ s' = (S18 w os).abs) := by
    rw [stm18, exec_Assign_Name top.env_1 _ _ _ _ (sw18 _), heap17]
    refine bn_bind (n := 1) (bn_at ?_)
    refine bn_bind (n := 1 + (500 * 650 + 500)) ?_
    show Bn w b (1 + (500 * 650 + 500)) (do standAt dp18; dictDisplay ((evalEachOpt (dKeys.map some) top.env_1).zip ((evalEach dVals top.env_1).map fun v => do let x ← v; standAt dp18; pure x))) _ _ _
    refine bn_bind (n := 1) (bn_at ?_)
    refine bn_display (l := pairs) h17 (its18 w b _ _) (rising_of _ hk.2) ?_ fun p' => ?_
    · unfold pairs
      rw [List.length_zip, List.length_map, List.length_map, Nat.eq_of_beq_eq_true hk.1.1.2, Nat.eq_of_beq_eq_true hk.1.2]
      rfl
    · refine bn_bind (n := 1) (bn_at ?_)
      rw [h17, show 395 + 1950 = 2345 by decide, ← heapD]
      refine bn_bind (n := 6) (m := 0) (go_bn (n := 6) (m := 0) (y := pure ()) (s' := (S18 w os).abs) (p' := np18) (fun K H gd lv => ?_) (bn_pure (bn_pure ⟨rfl, np18_eq, rfl⟩)))
      refine segGo_of ?_
      rw [PySem.W.Fast.te10295753902157049106, PySem.W.Fast.te14364793385576792824, PySem.W.Fast.te7536695828754713326]
      exact bindD w b os K H gd lv np18
  obtain ⟨f, p', s', ⟨rfl, rfl, rfl⟩, k⟩ := hB
  have e1 : sR w 1 (S18 w os).abs ⟨doneF .next, cB b, p18, stk⟩ = some (.next, (S18 w os).abs, cB b, p18) := end1 _ _ _ _ _
  have := k doneF deadEnd id id 1 _ e1
  unfold M18
  exact this
end
end Mine
namespace Mine
noncomputable abbrev twRun := PySem.W.Fast.tw10110043849684766642
noncomputable abbrev twExecs := PySem.W.Fast.tw12563942051412417395
noncomputable abbrev thr (s : List Stmt) (b : List Stmt) (p : Pos) : Thread := ⟨(twExecs s top.env_1).wrap doneF deadEnd id id, Code.body b top.env_1, p, [topFrame q0]⟩
theorem pc17 (w : World) (os : OsState) (b : List Stmt) : twRun twTab prog w 11 (some (Value.ref 6)) 1 60 (S16 w os) (thr [stm 17] b p16) = some (.next, S17 w os, Code.body b top.env_1, p17) := by kernel_rfl!
theorem pc19 (w : World) (os : OsState) (b : List Stmt) : twRun twTab prog w 11 (some (Value.ref 6)) 1 60 (S18 w os) (thr [stm 19] b p18) = some (.next, S19 w os, Code.body b top.env_1, p19) := by kernel_rfl!
theorem pc20 (w : World) (os : OsState) (b : List Stmt) : twRun twTab prog w 11 (some (Value.ref 6)) 1 60 (S19 w os) (thr [stm 20] b p19) = some (.next, S20 w os, Code.body b top.env_1, p20) := by kernel_rfl!
theorem pc21 (w : World) (os : OsState) (b : List Stmt) : twRun twTab prog w 11 (some (Value.ref 6)) 1 60 (S20 w os) (thr [stm 21] b p20) = some (.next, S21 w os, Code.body b top.env_1, p21) := by kernel_rfl!
theorem pc22 (w : World) (os : OsState) (b : List Stmt) : twRun twTab prog w 11 (some (Value.ref 6)) 1 60 (S21 w os) (thr [stm 22] b p21) = some (.next, S22 w os, Code.body b top.env_1, p22) := by kernel_rfl!
theorem pc23 (w : World) (os : OsState) (b : List Stmt) : twRun twTab prog w 11 (some (Value.ref 6)) 1 60 (S22 w os) (thr [stm 23] b p22) = some (.next, S23 w os, Code.body b top.env_1, p23) := by kernel_rfl!
theorem pc24 (w : World) (os : OsState) (b : List Stmt) : twRun twTab prog w 11 (some (Value.ref 6)) 1 60 (S23 w os) (thr [stm 24] b p23) = some (.next, S24 w os, Code.body b top.env_1, p24) := by kernel_rfl!
theorem pc25 (w : World) (os : OsState) (b : List Stmt) : twRun twTab prog w 11 (some (Value.ref 6)) 1 60 (S24 w os) (thr [stm 25] b p24) = some (.next, S25 w os, Code.body b top.env_1, p25) := by kernel_rfl!
theorem pc26 (w : World) (os : OsState) (b : List Stmt) : twRun twTab prog w 11 (some (Value.ref 6)) 1 60 (S25 w os) (thr [stm 26] b p25) = some (.next, S26 w os, Code.body b top.env_1, p26) := by kernel_rfl!
theorem pc27 (w : World) (os : OsState) (b : List Stmt) : twRun twTab prog w 11 (some (Value.ref 6)) 1 60 (S26 w os) (thr [stm 27] b p26) = some (.next, S27 w os, Code.body b top.env_1, p27) := by kernel_rfl!
end Mine
namespace Mine
theorem pc16f (w : World) (os : OsState) (b : List Stmt) : twRun twTab prog (wF w) 11 (some (Value.ref 6)) 1 999 (S15 (wF w) os) (thr [stm 16] b p15) = some (.next, S16 (wF w) os, Code.body b top.env_1, p16) := by kernel_rfl!
theorem pc16t (w : World) (os : OsState) (b : List Stmt) : twRun twTab prog (wT w) 11 (some (Value.ref 6)) 1 999 (S15 (wT w) os) (thr [stm 16] b p15) = some (.next, S16 (wT w) os, Code.body b top.env_1, p16) := by kernel_rfl!
end Mine
namespace Mine
noncomputable section
abbrev bdy : List Stmt := behindTheImports prog
noncomputable abbrev cE : Code := Code.body bdy top.env_1
noncomputable abbrev twTop := PySem.W.Fast.tw14082659384304107361
noncomputable abbrev twTopGo := PySem.W.Fast.tw15667345088766844465
noncomputable abbrev twDen := PySem.W.Fast.tw11892475500146522536
noncomputable abbrev twSeg := PySem.W.Fast.tw14374325043358763698
def S4 (w : World) (os : OsState) : SharedT := ⟨top.tree_4 w.params, 15, {}, ⟨[]⟩, {}, 187, os⟩
def S0 (w : World) (os : OsState) : Shared := ⟨boot_heap w.params, ⟨[]⟩, boot_drawn, boot_toks, os⟩
theorem preP (w : World) (os : OsState) : twTopGo twTab prog w 11 (some (.ref 6)) 12 (S0 w os) (topStub prog) = some ((S4 w os).abs, ⟨twDen twTab cE, cE, q0, stk⟩) := by kernel_rfl!
theorem blkP (w : World) (os : OsState) : segRun treeTable prog w 11 (some (.ref 6)) 1 1 (S4 w os).abs (blockOf bdy top.env_1 cE q0 stk) = some (.next, (S4 w os).abs, cE, q0) := by kernel_rfl!
theorem finP (w : World) (os : OsState) (s : Shared) : topRun treeTable prog w 11 (some (.ref 6)) 2 s ⟨doneF .next, cE, p27, stk⟩ = some s := by kernel_rfl!
theorem bodyP : bdy = top.sts_4 ++ (top.sts_41 ++ (top.sts_92 ++ [stm 16, stm 17, stm 18, stm 19, stm 20, stm 21, stm 22, stm 23, stm 24, stm 25, stm 26, stm 27])) := by kernel_rfl!
end
end Mine
namespace Mine
noncomputable section
theorem seg_of {n : Nat} {w : World} {s s' : SharedT} {l b : List Stmt} {p p' : Pos} (h : twRun twTab prog w 11 (some (Value.ref 6)) 1 n s (thr l b p) = some (.next, s', Code.body b top.env_1, p')) :
    segRun treeTable prog w 11 (some (.ref 6)) 1 n s.abs (piecesOf l top.env_1 (Code.body b top.env_1) p stk) = some (.next, s'.abs, Code.body b top.env_1, p') := by
  refine segRun_of ?_
  show segRunT treeTable prog w 11 (some (Value.ref 6)) 1 n s ⟨(execs l top.env_1).wrap doneF deadEnd id id, Code.body b top.env_1, p, stk⟩ = _
  rw [PySem.W.Fast.te10110043849684766642, PySem.W.Fast.te14364793385576792824, PySem.W.Fast.te12563942051412417395]
  exact h
theorem pc16 (w : World) (os : OsState) (b : List Stmt) : twRun twTab prog w 11 (some (Value.ref 6)) 1 999 (S15 w os) (thr [stm 16] b p15) = some (.next, S16 w os, Code.body b top.env_1, p16) := by
  have e := World.withFollow_self w "special-get-raises"
  cases hb : w.params.followText "special-get-raises" <;> rw [hb] at e
  · rw [← e]; exact pc16f w os b
  · rw [← e]; exact pc16t w os b
abbrev tR (w : World) := topRun treeTable prog w 11 (some (.ref 6))
theorem stepP {n N : Nat} {w : World} {s s' : SharedT} {r : Shared} {st : Stmt} {rest : List Stmt} {p p' : Pos} (h : twRun twTab prog w 11 (some (Value.ref 6)) 1 n s (thr [st] bdy p) = some (.next, s', cE, p'))
    (k : tR w N s'.abs (restOf rest top.env_1 cE p' stk) = some r) : tR w (n + N) s.abs (restOf (st :: rest) top.env_1 cE p stk) = some r :=
  piece_app (l := [st]) (seg_of h) k
theorem run27 (w : World) (os : OsState) : tR w 2 (S27 w os).abs (restOf [] top.env_1 cE p27 stk) = some (S27 w os).abs := piece_nil (finP w os _)
def MA : Nat := 60 + (60 + (60 + (60 + (60 + (60 + (60 + (60 + (60 + 2))))))))
theorem run18 (w : World) (os : OsState) : tR w MA (S18 w os).abs (restOf [stm 19, stm 20, stm 21, stm 22, stm 23, stm 24, stm 25, stm 26, stm 27] top.env_1 cE p18 stk) = some (S27 w os).abs :=
  stepP (pc19 w os bdy) (stepP (pc20 w os bdy) (stepP (pc21 w os bdy) (stepP (pc22 w os bdy) (stepP (pc23 w os bdy) (stepP (pc24 w os bdy) (stepP (pc25 w os bdy) (stepP (pc26 w os bdy) (stepP (pc27 w os bdy) (run27 w os)))))))))
theorem run17 (w : World) (os : OsState) : tR w (M18 + MA) (S17 w os).abs (restOf [stm 18, stm 19, stm 20, stm 21, stm 22, stm 23, stm 24, stm 25, stm 26, stm 27] top.env_1 cE p17 stk) = some (S27 w os).abs :=
  piece_cons (pc18 w os bdy) (run18 w os)
theorem run15 (w : World) (os : OsState) : tR w (999 + (60 + (M18 + MA))) (S15 w os).abs (restOf [stm 16, stm 17, stm 18, stm 19, stm 20, stm 21, stm 22, stm 23, stm 24, stm 25, stm 26, stm 27] top.env_1 cE p15 stk) = some (S27 w os).abs :=
  stepP (pc16 w os bdy) (stepP (pc17 w os bdy) (run17 w os))
theorem run4 (w : World) (os : OsState) : tR w (297 + (389 + (114 + (999 + (60 + (M18 + MA)))))) (S4 w os).abs (restOf bdy top.env_1 cE q0 stk) = some (S27 w os).abs := by
  rw [bodyP]
  exact top.chain prog bdy w os _ _ _ (run15 w os)
def MZ : Nat := 12 + (1 + (297 + (389 + (114 + (999 + (60 + (M18 + MA)))))))
theorem runP (w : World) (os : OsState) : tR w MZ (S0 w os) (topStub prog) = some (S27 w os).abs := by
  unfold MZ
  refine go_top (s' := (S4 w os).abs) (t' := ⟨denote treeTable cE, cE, q0, stk⟩) ?_ (piece_block (blkP w os) (run4 w os))
  rw [PySem.W.Fast.te15667345088766844465, PySem.W.Fast.te14364793385576792824, PySem.W.Fast.te11892475500146522536]
  exact preP w os
end
end Mine
namespace Mine
noncomputable section
def NN : Nat := 400000
theorem openP : ∀ w : World, (fencedOpening treeTable prog w NN).map (fun s => (s.heap, s.gens, s.drawn, s.toks)) = some (boot_heap w.params, Array.mk [], boot_drawn, boot_toks) :=
  boot_open (by kernel_rfl!) (by kernel_rfl!) (fun s => by kernel_rfl!)
theorem sizeP (w : World) : ((boot_heap w.params).isNs mainGlobals && (⟨[]⟩ : Array GenState).size == 0, (boot_heap w.params).objs.size, (boot_heap w.params).nsMap mainGlobals "__annotations__") = (true, 11, some (.ref 6)) := by kernel_rfl!
def qv : Program := { prog with main := { prog.main with body := [stm 27] } }
def looseN : List Str := ["_wall", "_plain_name", "ABCMeta", "_ABCLike", "_abc_plain_meta", "fspath", "_check_arg_types", "_get_sep", "join", "b1_set", "in_table_b1", "b3_exceptions", "map_table_b3", "_law_gone", "_law_special", "_law_part", "_law_prepared", "_law_hung", "_law_alike"]
def H27 (P : Params) : Heap := absHeap (T27 P) 225 {}
def s27 (w : World) (os : OsState) : Shared := ⟨H27 w.params, ⟨[]⟩, {}, 2422, os⟩
theorem s27_eq (w : World) (os : OsState) : (S27 w os).abs = s27 w os := rfl
theorem lk1 (w : World) : staticsOk (importedModules prog.main.body) (boot_heap w.params) (H27 w.params) = true := by kernel_rfl!
theorem lk2 (w : World) : namesBound prog (H27 w.params) = true := by kernel_rfl!
theorem lk3 (w : World) (os : OsState) : gensDone (s27 w os) = true := by kernel_rfl!
theorem lk4 (w : World) : laidKept (boot_heap w.params) (H27 w.params) = true := by kernel_rfl!
end
end Mine
namespace Mine
noncomputable section
theorem sn1 (w : World) (os : OsState) : seen ((recsOf qv).map (·.name)) (ownsOf qv) [] { s27 w os with gens := #[] } = expectedOf qv := by kernel_rfl!
theorem sn2 (w : World) : (H27 w.params).bltView = bltViewBooted := by kernel_rfl!
theorem sn3a (w : World) : (H27 w.params).keysOk (looseW qv looseN) ((recsOf qv).map (·.name)) ((litsOf qv).map (·.1)) ((clssOf qv (looseW qv looseN)).map (·.name)) = true := by kernel_rfl!
theorem sn3b (w : World) : (H27 w.params).accountedOkI (importedModules prog.main.body) = true := by kernel_rfl!
theorem sn3c (w : World) : ((H27 w.params).isNs mainGlobals && (H27 w.params).isNs builtinsNs) = true := by kernel_rfl!
theorem sn3d (w : World) : tablesOk qv (H27 w.params) = true := by kernel_rfl!
theorem sn4 (w : World) (os : OsState) : tabsOk qv (s27 w os) = true := by kernel_rfl!
theorem sn5 (w : World) (os : OsState) : pinSeenD qv (drecsOf qv) (s27 w os) = pinGoodD (drecsOf qv) := by kernel_rfl!
theorem sn6 (w : World) (os : OsState) : plainSeenE qv (looseW qv looseN) (s27 w os) = plainGoodE qv (looseW qv looseN) := by kernel_rfl!
theorem sn7 (w : World) (os : OsState) : plainSeenD qv looseN (s27 w os) = plainGoodD qv looseN := by kernel_rfl!
theorem sn8 (w : World) (os : OsState) : wideSeen qv (s27 w os) = wideGood qv := by kernel_rfl!
theorem sn9 (w : World) (os : OsState) : clsSeenW qv looseN (s27 w os) = clsGoodW qv looseN := by kernel_rfl!
end
end Mine
namespace Mine
noncomputable section
theorem looksP (w : World) (os : OsState) : ((staticsOk (importedModules prog.main.body) (boot_heap w.params) (H27 w.params) && namesBound prog (H27 w.params) && gensDone (s27 w os) && laidKept (boot_heap w.params) (H27 w.params)),
    openSeen qv looseN (importedModules prog.main.body) (fun _ => true) true (s27 w os), (s27 w os).heap) = (true, openGood qv looseN, H27 w.params) := by
  have h3 : ((H27 w.params).keysOk (looseW qv looseN) ((recsOf qv).map (·.name)) ((litsOf qv).map (·.1)) ((clssOf qv (looseW qv looseN)).map (·.name)) && (H27 w.params).accountedOkI (importedModules prog.main.body) && (H27 w.params).isNs mainGlobals && (H27 w.params).isNs builtinsNs && tablesOk qv (H27 w.params) && true && (if true then (s27 w os).gens.size == 0 else !leftWithCleanup (s27 w os).gens)) = true := by
    have h := Bool.and_eq_true_iff.mp (sn3c w)
    rw [sn3a, sn3b, h.1, h.2, sn3d]; rfl
  refine Prod.mk.injEq .. |>.mpr ⟨?_, Prod.mk.injEq .. |>.mpr ⟨?_, rfl⟩⟩
  · rw [lk1, lk2, lk3, lk4]; rfl
  · show (_, _, _, _, _, _, _, _, _) = (_, _, _, _, _, _, _, _, _)
    refine Prod.mk.injEq .. |>.mpr ⟨sn1 w os, Prod.mk.injEq .. |>.mpr ⟨sn2 w, Prod.mk.injEq .. |>.mpr ⟨h3, Prod.mk.injEq .. |>.mpr ⟨sn4 w os, Prod.mk.injEq .. |>.mpr ⟨sn5 w os, Prod.mk.injEq .. |>.mpr ⟨sn6 w os, Prod.mk.injEq .. |>.mpr ⟨sn7 w os, Prod.mk.injEq .. |>.mpr ⟨sn8 w os, sn9 w os⟩⟩⟩⟩⟩⟩⟩⟩
theorem leftP : LeftO prog qv looseN (fun _ => true) (fun s => s.heap) (fun w => H27 w.params) NN :=
  LeftO.of_pieces (H₀ := boot_heap) (H₁ := H27) (gs₀ := ⟨[]⟩) (gs₁ := ⟨[]⟩) (d₀ := boot_drawn) (d₁ := {}) (k₀ := boot_toks) (k₁ := 2422) (m₀ := 11) (ann := some (.ref 6)) (M := MZ) openP sizeP (fun w os => runP w os) (by kernel_rfl!) (fun w => funext fun os => looksP w os)
end
end Mine
namespace Mine
noncomputable section
def pmA (h : Heap) (a : Nat) : Value := match h.get? a with
  | some ⟨_, _, .func f, _⟩ => f.pyModule
  | _ => .none
def cdA (h : Heap) (a : Nat) : Value := match h.get? a with
  | some ⟨_, _, .func f, _⟩ => f.code
  | _ => .none
def cA (h : Heap) (a : Nat) : Nat := match cdA h a with
  | .ref c => c
  | _ => 0
def vsA (h : Heap) (a : Nat) : Array Value := match h.get? (cA h a) with
  | some ⟨_, _, .fields vs, _⟩ => vs
  | _ => #[]
def tA (h : Heap) (a : Nat) : Tok := match ((vsA h a)[1]? : Option Value) with
  | some (Value.str _ t) => t
  | _ => 0
theorem FnAt.of {h : Heap} {a i : Nat} (e1 : (h.get? a).map (·.data) = some (.func (docDef (nm (stm i)) (pr (stm i)) (bd (stm i)) (sc (stm i)) (pmA h a) (cdA h a) .none)))
    (e3 : cdA h a = .ref (cA h a)) (e4 : (h.get? (cA h a)).map (·.data) = some (.fields (vsA h a))) (e6 : (vsA h a)[1]? = some (.str (nm (stm i)) (tA h a))) : FnAt h a i := by
  obtain ⟨o, ho, hd⟩ := Option.map_eq_some_iff.mp e1
  obtain ⟨oc, hoc, hdc⟩ := Option.map_eq_some_iff.mp e4
  exact ⟨o, _, _, ho, hd, cA h a, oc, vsA h a, tA h a, e3, hoc, hdc, e6⟩
theorem fn94 (P : Params) : FnAt (H27 P) 94 9 := .of (by kernel_rfl!) (by kernel_rfl!) (by kernel_rfl!) (by kernel_rfl!)
theorem fn108 (P : Params) : FnAt (H27 P) 108 13 := .of (by kernel_rfl!) (by kernel_rfl!) (by kernel_rfl!) (by kernel_rfl!)
theorem fn115 (P : Params) : FnAt (H27 P) 115 14 := .of (by kernel_rfl!) (by kernel_rfl!) (by kernel_rfl!) (by kernel_rfl!)
theorem fn133 (P : Params) : FnAt (H27 P) 133 17 := .of (by kernel_rfl!) (by kernel_rfl!) (by kernel_rfl!) (by kernel_rfl!)
theorem fn179 (P : Params) : FnAt (H27 P) 179 19 := .of (by kernel_rfl!) (by kernel_rfl!) (by kernel_rfl!) (by kernel_rfl!)
theorem fn186 (P : Params) : FnAt (H27 P) 186 21 := .of (by kernel_rfl!) (by kernel_rfl!) (by kernel_rfl!) (by kernel_rfl!)
theorem fn193 (P : Params) : FnAt (H27 P) 193 22 := .of (by kernel_rfl!) (by kernel_rfl!) (by kernel_rfl!) (by kernel_rfl!)
theorem fn200 (P : Params) : FnAt (H27 P) 200 23 := .of (by kernel_rfl!) (by kernel_rfl!) (by kernel_rfl!) (by kernel_rfl!)
theorem fn205 (P : Params) : FnAt (H27 P) 205 24 := .of (by kernel_rfl!) (by kernel_rfl!) (by kernel_rfl!) (by kernel_rfl!)
theorem fn212 (P : Params) : FnAt (H27 P) 212 25 := .of (by kernel_rfl!) (by kernel_rfl!) (by kernel_rfl!) (by kernel_rfl!)
theorem fn219 (P : Params) : FnAt (H27 P) 219 26 := .of (by kernel_rfl!) (by kernel_rfl!) (by kernel_rfl!) (by kernel_rfl!)
theorem fn224 (P : Params) : FnAt (H27 P) 224 27 := .of (by kernel_rfl!) (by kernel_rfl!) (by kernel_rfl!) (by kernel_rfl!)
theorem gv27 (P : Params) : globL.map (fun p => (H27 P).nsMap mainGlobals p.1) = globL.map (fun p => some p.2) := by kernel_rfl!
theorem bv27 (P : Params) : bltL.map (fun p => ((H27 P).nsMap mainGlobals p.1, (H27 P).nsMap builtinsNs p.1)) = bltL.map (fun p => (none, some p.2)) := by kernel_rfl!
theorem ns27 (P : Params) : ((H27 P).isNs mainGlobals && (H27 P).isNs builtinsNs && (H27 P).isNs cStatics) = true := by kernel_rfl!
theorem st27 (P : Params) : ((H27 P).nsMap cStatics "sys.recursionlimit", (H27 P).nsMap cStatics "sys.int_max_str_digits") = (none, none) := by kernel_rfl!
theorem get123 (P : Params) : (H27 P).get? 123 = some (q_123 P) := by kernel_rfl!
theorem get134 (P : Params) : (H27 P).get? 134 = some (bigObj P) := by kernel_rfl!
theorem l123_eq : l123.map (·.1) = b1L := by kernel_rfl!
theorem l123_b : l123.all (fun x => decide (0 ≤ x.1) && decide (x.1 ≤ 1114111)) = true := by kernel_rfl!
def tab123 (P : Params) : SetTable := match (q_123 P).data with
  | .set _ _ t => t
  | _ => { mask := 0, place := #[], dummies := #[], finger := 0, led := false, moves := 0, plain := true }
theorem fit123 (P : Params) : (tab123 P).fits 27 = true := by kernel_rfl!
theorem dat123 (P : Params) : (q_123 P).data = .set (l123.map fun x => (x.1, Value.int x.1 x.2)).toArray 29 (tab123 P) := by kernel_rfl!
theorem hashInt_id {k : Int} (h0 : 0 ≤ k) (h1 : k ≤ 1114111) : hashInt k = k := by
  have e : rawHash k = k := by have := hashI_id h0 h1; unfold hashI at this; unfold rawHash; exact this
  have h3 : (k == -1) = false := by simp; omega
  unfold hashInt
  rw [e, h3]; rfl
theorem find_ent (k : Int) : ∀ (l : List (Int × Str)) (t : Nat), ∃ u, ((entries t l).find? fun e => Value.isInt k e.key).map (·.val) = (l.lookup k).map fun x => .str x u
  | [], t => ⟨0, rfl⟩
  | (a, x) :: r, t => by
    show ∃ u, (((⟨a, .int a t, .str x (t + 1)⟩ : DictEntry) :: entries (t + 3) r).find? fun e => Value.isInt k e.key).map (·.val) = _
    rw [List.find?_cons, List.lookup_cons]
    by_cases h : a = k
    · subst h
      exact ⟨t + 1, by simp [Value.isInt]⟩
    · obtain ⟨u, hu⟩ := find_ent k r (t + 3)
      refine ⟨u, ?_⟩
      have h1 : (Value.isInt k (.int a t)) = false := by simp [Value.isInt, h]
      have h2 : (k == a) = false := by simp [Ne.symm h]
      rw [h1, h2]; exact hu
theorem find_ent2 (k : Int) : ∀ (l : List (Int × Str)) (t : Nat), ∃ u, ((entries2 t l).find? fun e => Value.isInt k e.key).map (·.val) = (l.lookup k).map fun x => .str x u
  | [], t => ⟨0, rfl⟩
  | (a, x) :: r, t => by
    show ∃ u, (((⟨a, .int a t, .str x (t + 1)⟩ : DictEntry) :: entries2 (t + 2) r).find? fun e => Value.isInt k e.key).map (·.val) = _
    rw [List.find?_cons, List.lookup_cons]
    by_cases h : a = k
    · subst h
      exact ⟨t + 1, by simp [Value.isInt]⟩
    · obtain ⟨u, hu⟩ := find_ent2 k r (t + 2)
      refine ⟨u, ?_⟩
      have h1 : (Value.isInt k (.int a t)) = false := by simp [Value.isInt, h]
      have h2 : (k == a) = false := by simp [Ne.symm h]
      rw [h1, h2]; exact hu
theorem lookup_app {α : Type} (k : Int) : ∀ (l m : List (Int × α)), (l ++ m).lookup k = (l.lookup k).or (m.lookup k)
  | [], m => by simp
  | (a, x) :: r, m => by
    rw [List.cons_append, List.lookup_cons, List.lookup_cons, lookup_app k r m]
    cases (k == a) <;> simp
def bigL : List DictEntry := entries 395 (pairs.take 646) ++ entries2 2333 (pairs.drop 646)
theorem find_big (k : Int) : ∃ u, (bigL.find? fun e => Value.isInt k e.key).map (·.val) = (b3 k).map fun x => .str x u := by
  obtain ⟨u1, h1⟩ := find_ent k (pairs.take 646) 395
  obtain ⟨u2, h2⟩ := find_ent2 k (pairs.drop 646) 2333
  unfold bigL b3
  have e : pairs.lookup k = ((pairs.take 646).lookup k).or ((pairs.drop 646).lookup k) := by rw [← lookup_app, List.take_append_drop]
  rw [e, List.find?_append]
  cases hl : (pairs.take 646).lookup k with
  | some x =>
    rw [hl] at h1
    obtain ⟨e1, he1, hv⟩ := Option.map_eq_some_iff.mp h1
    exact ⟨u1, by rw [he1]; simp [hv]⟩
  | none =>
    rw [hl] at h1
    have : (entries 395 (pairs.take 646)).find? (fun e => Value.isInt k e.key) = none := by
      cases hf : (entries 395 (pairs.take 646)).find? (fun e => Value.isInt k e.key) with
      | none => rfl
      | some y => rw [hf] at h1; cases h1
    exact ⟨u2, by rw [this]; simpa using h2⟩
theorem pairs_bd {x : Int × Str} (h : x ∈ pairs) : 0 ≤ x.1 ∧ x.1 ≤ 1114111 := by
  have hk := keys_ok
  simp only [Bool.and_eq_true] at hk
  unfold pairs at h
  have h1 := (List.of_mem_zip h).1
  obtain ⟨ke, hke, e⟩ := List.mem_map.mp h1
  have c1 := List.all_eq_true.mp hk.1.1.1.1 ke hke
  unfold isKc at c1
  split at c1
  · rename_i kk _ _
    rw [Bool.and_eq_true, decide_eq_true_eq, decide_eq_true_eq] at c1
    rw [← e]; exact c1
  · cases c1
theorem ent_mem {t : Nat} {l : List (Int × Str)} {e : DictEntry} (h : e ∈ entries t l) : ∃ x ∈ l, e.hash = x.1 := by
  obtain ⟨i, hi⟩ := List.mem_iff_getElem?.mp h
  obtain ⟨x, hx, e⟩ := ent_hash_at hi
  exact ⟨x, List.mem_of_getElem? hx, e⟩
theorem ent2_mem {t : Nat} {l : List (Int × Str)} {e : DictEntry} (h : e ∈ entries2 t l) : ∃ x ∈ l, e.hash = x.1 := by
  obtain ⟨i, hi⟩ := List.mem_iff_getElem?.mp h
  obtain ⟨x, hx, e⟩ := ent2_hash_at hi
  exact ⟨x, List.mem_of_getElem? hx, e⟩
theorem wd27 (w : World) : Wd w ((H27 w.params).nsMap mainGlobals) ((H27 w.params).nsMap builtinsNs) (H27 w.params) := by
  have hn := ns27 w.params
  simp only [Bool.and_eq_true] at hn
  have hs := Prod.mk.inj (st27 w.params)
  refine ⟨.of_isNs hn.1.1, .of_isNs hn.1.2, fun p hp => ?_, fun p hp => ?_, fun p hp => ?_, ⟨_, .of_isNs hn.2, hs.1⟩, ⟨_, .of_isNs hn.2, hs.2⟩, ?_, ?_⟩
  · exact List.map_inj_left.mp (gv27 w.params) p hp
  · exact Prod.mk.inj (List.map_inj_left.mp (bv27 w.params) p hp)
  · simp only [fnL, List.mem_cons, List.not_mem_nil, or_false] at hp
    rcases hp with rfl | rfl | rfl | rfl | rfl | rfl | rfl | rfl | rfl | rfl | rfl | rfl
    · exact fn94 _
    · exact fn108 _
    · exact fn115 _
    · exact fn133 _
    · exact fn179 _
    · exact fn186 _
    · exact fn193 _
    · exact fn200 _
    · exact fn205 _
    · exact fn212 _
    · exact fn219 _
    · exact fn224 _
  · refine ⟨q_123 w.params, _, _, tab123 w.params, get123 _, ⟨rfl, rfl, rfl⟩, dat123 _, ?_, ?_, ?_, ?_, ?_⟩
    · intro e he
      obtain ⟨x, hx, rfl⟩ := List.mem_map.mp he
      have := List.all_eq_true.mp l123_b x hx
      rw [Bool.and_eq_true, decide_eq_true_eq, decide_eq_true_eq] at this
      exact ⟨⟨x.1, by simp [intKind, Value.isInt], (hashInt_id this.1 this.2).symm⟩, rfl⟩
    · intro k
      rw [← l123_eq, List.contains_iff_mem, List.mem_map]
      constructor
      · rintro ⟨x, hx, rfl⟩
        exact ⟨_, List.mem_map.mpr ⟨x, hx, rfl⟩, by simp [intKind, Value.isInt]⟩
      · rintro ⟨e, he, hi⟩
        obtain ⟨x, hx, rfl⟩ := List.mem_map.mp he
        exact ⟨x, hx, by simpa [intKind, Value.isInt] using hi⟩
    · rw [List.size_toArray, List.length_map]; decide
    · rw [List.size_toArray, List.length_map]; exact fit123 _
    · rw [List.size_toArray, List.length_map]; rfl
  · refine ⟨fun k => findBy Value.isInt bigL.toArray k, ⟨bigObj w.params, bigL.toArray, 650, get134 _, ⟨rfl, rfl, rfl⟩, rfl, ?_, fun k => rfl⟩, fun k => ?_⟩
    · intro e he
      have he' : e ∈ bigL := by simpa using he
      unfold bigL at he'
      have hk : (∃ tk, e.key = .int e.hash tk) ∧ ∃ x ∈ pairs, e.hash = x.1 := by
        rcases List.mem_append.mp he' with h | h
        · exact ⟨ent_key e h, let ⟨x, hx, ex⟩ := ent_mem h; ⟨x, List.mem_of_mem_take hx, ex⟩⟩
        · exact ⟨ent2_key e h, let ⟨x, hx, ex⟩ := ent2_mem h; ⟨x, List.mem_of_mem_drop hx, ex⟩⟩
      obtain ⟨⟨tk, h1⟩, x, hx, h2⟩ := hk
      have hb := pairs_bd hx
      refine ⟨e.hash, by rw [h1]; simp [intKind, Value.isInt], ?_⟩
      exact (hashInt_id (by omega) (by omega)).symm
    · obtain ⟨u, hu⟩ := find_big k
      refine ⟨u, ?_⟩
      show findBy Value.isInt bigL.toArray k = _
      unfold findBy
      rw [List.find?_toArray]
      exact hu
end
end Mine
namespace Mine
noncomputable section
def YPw (w : World) (h : Heap) : Prop := ∃ mg mb, Wd w mg mb h
theorem yp_of (w : World) (s : Shared) (e : s.heap = H27 w.params) : YPw w s.heap := ⟨_, _, e ▸ wd27 w⟩
theorem yp_keeps (w : World) (h h' : Heap) (y : YPw w h) (k : ∀ b o, h.get? b = some o → h'.get? b = some o) : YPw w h' := let ⟨mg, mb, W⟩ := y; ⟨mg, mb, W.keeps k⟩
theorem ns_same {h : Heap} {a : Addr} {m m' : Str → Option Value} (n : h.Ns a m) (n' : h.Ns a m') (x : Str) : m x = m' x := by
  obtain ⟨o, es, ep, e, d, _, f⟩ := n
  obtain ⟨o', es', ep', e', d', _, f'⟩ := n'
  rw [e] at e'; cases e'
  rw [d] at d'; cases d'
  rw [← f, ← f']
theorem callerRm : Rm callerA 4 := ⟨by decide +kernel, by decide +kernel, rfl⟩
theorem law_holds : PySem.Challenge.rw_pd0020_01.Holds := by
  w_on
  o_law
  refine holds_open (q := qv) (loose := looseN) (Xt := fun _ => true) (XP := fun _ _ => True) (Yf := fun s => s.heap) (Ya := fun w => H27 w.params) (YP := YPw) (N := NN) leftP yp_of yp_keeps (fun _ _ => trivial) (fun _ _ _ _ _ => trivial) (by rfl) (by rfl) (by rfl) (fun s _ => recFacts_nil rfl) (by rfl) (by assumption) (by decide +kernel) (by exact ⟨rfl, rfl, rfl, rfl, rfl, by decide +kernel⟩) ?hw ?hc
  case hw => exact ⟨[.list [.int 3, .int 1]], by decide +kernel, by decide +kernel⟩
  case hc =>
    intro w s₀ s₁ mg mb G Y a o pm cd doc dV kV ho hd hcd hD hmg hg args vals as hpre hlay hrd hwl hlo
    obtain ⟨mg', mb', W⟩ := Y
    have h1 : mg' "law" = some (.ref 224) := W.gv ("law", .ref 224) (by decide)
    have h2 := ns_same G.T.g W.g "law"
    have h3 : mg "law" = some (.ref a) := hmg
    rw [h2, h1] at h3
    obtain rfl : (224 : Nat) = a := by injection (Option.some.inj h3)
    clear ho hd hcd hD hmg h1 h2 h3 G
    wrow_args hpre hlay hrd hwl hlo
    (rename IntsAre _ _ => hI)
    (rename Heap.IsList _ _ _ => hL)
    (rename ¬ _ => hlen)
    have hl2 := hlen
    show wpAny (model prog w) callerA (call (.ref 224) [.ref _]) _ _ s₁
    refine call_ct (law_ct W callerRm hL hI (by omega) (pl1_of (parts_prep _)) (pl2_of (parts_prep _))) fun v s' K hg' ho' e => ?_
    subst e
    exact GoodW.toG ⟨.inl ⟨.bool true, .bool true, [], rfl, fun _ => rfl, .bool true, by kernel_rfl!, fun _ => ⟨.nil, nofun⟩⟩, K, ho', hg'.trans hg⟩
end
end Mine
theorem PySem.Challenge.cw_pd0020_01_holds : PySem.Challenge.rw_pd0020_01.Holds := by
  exact Mine.law_holds
