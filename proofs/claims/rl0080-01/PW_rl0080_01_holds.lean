import PyProof.Rows.All
import Wide.All
import OpenK.AllK
import Wide.FinOn
import PySem.Challenge.RW_rl0080_01
open PySem PySem.W PyProof.Rows PySem.Calls
set_option Elab.async false
set_option maxRecDepth 100000
set_option maxHeartbeats 8000000
set_option linter.all false
set_option compiler.extract_closed false
namespace Mine
open_top hd for PySem.Challenge.rw_rl0080_01

theorem itT {a b : Prop} (h : a) : (if true = true then a else b) := by rw [if_pos rfl]; exact h
theorem itF {a b : Prop} (h : b) : (if false = true then a else b) := by rw [if_neg Bool.false_ne_true]; exact h
noncomputable abbrev KP (w : World) : Frag := hd.heap_39 w.params

theorem gl0 (w : World) : nsIn (KP w) mainGlobals (Str.ofString "Whitespace") = some (some (.ref 83)) := rfl
theorem gl1 (w : World) : nsIn (KP w) mainGlobals (Str.ofString "_ellipsis_match") = some (some (.ref 94)) := rfl
theorem gl2 (w : World) : nsIn (KP w) mainGlobals (Str.ofString "_strcoll") = some (some (.ref 101)) := rfl
theorem gl3 (w : World) : nsIn (KP w) mainGlobals (Str.ofString "_strip_padding") = some (some (.ref 108)) := rfl
theorem gl4 (w : World) : nsIn (KP w) mainGlobals (Str.ofString "_law_twin") = some (some (.ref 115)) := rfl
theorem gl5 (w : World) : nsIn (KP w) mainGlobals (Str.ofString "_law_least") = some (some (.ref 122)) := rfl
theorem gl6 (w : World) : nsIn (KP w) mainGlobals (Str.ofString "_law_counts") = some (some (.ref 129)) := rfl
theorem gl7 (w : World) : nsIn (KP w) mainGlobals (Str.ofString "_law_lead") = some (some (.ref 136)) := rfl
theorem gl8 (w : World) : nsIn (KP w) mainGlobals (Str.ofString "_law_together") = some (some (.ref 143)) := rfl
theorem gl9 (w : World) : nsIn (KP w) mainGlobals (Str.ofString "ELLIPSIS_MARKER") = some (some (.str (Str.ofString "...") 290)) := rfl
theorem gb0 (w : World) : nsIn (KP w) mainGlobals (Str.ofString "len") = some none := rfl
theorem gb1 (w : World) : nsIn (KP w) mainGlobals (Str.ofString "range") = some none := rfl
theorem gb2 (w : World) : nsIn (KP w) mainGlobals (Str.ofString "enumerate") = some none := rfl
theorem gb3 (w : World) : nsIn (KP w) mainGlobals (Str.ofString "tuple") = some none := rfl
theorem gb4 (w : World) : nsIn (KP w) mainGlobals (Str.ofString "sum") = some none := rfl

structure Cx (w : World) (h : Heap) : Prop where
  X : (KP w).In h
  g : ∃ mg, h.Ns mainGlobals mg
  b : ∃ mb, h.Ns builtinsNs mb ∧ ∀ x : Str, x ≠ "__name__" → mb x = bootBuiltins x
  lim : h.NoLimit

theorem Cx.keeps {w : World} {h h' : Heap} (C : Cx w h) (k : h.StaysIn h') : Cx w h' :=
  ⟨C.X.keeps k, let ⟨mg, e⟩ := C.g; ⟨mg, e.keeps k⟩, let ⟨mb, e, r⟩ := C.b; ⟨mb, e.keeps k, r⟩, C.lim.keeps k⟩

/-- the frame's map m at L, the objects os that the call owns, all of h₀ kept -/
structure St (h₀ : Heap) (L : Addr) (m : Str → Option Value) (os : List (Addr × Obj)) (h : Heap) : Prop where
  F : Fr h₀ L h m
  N : News h₀ L h os
  D : (os.map Prod.fst).Nodup

section
variable {h₀ h h' : Heap} {L : Addr} {m m' : Str → Option Value} {os : List (Addr × Obj)}
theorem St.put (S : St h₀ L m os h) (hn : h'.Ns L m') (hs : Heap.SameBut L h h') : St h₀ L m' os h' :=
  ⟨S.F.set hn hs, S.N.set hs, S.D⟩
theorem St.grow (S : St h₀ L m os h) (k : h.StaysIn h') : St h₀ L m os h' :=
  ⟨⟨S.F.ns.keeps k, fun b o e => k b o (S.F.keep b o e), S.F.above⟩, fun p hp => ⟨k _ _ (S.N p hp).1, (S.N p hp).2⟩, S.D⟩
theorem St.push (S : St h₀ L m os h) (o : Obj) (hf : o.isFreed = false := by rfl) : St h₀ L m ((h.objs.size, o) :: os) (h.push o) :=
  ⟨S.F.push o, News.push S.F S.N o hf, by
    rw [List.map_cons, List.nodup_cons]
    refine ⟨fun q => ?_, S.D⟩
    obtain ⟨p, hp, e⟩ := List.mem_map.mp q
    have := Heap.lt_size (S.N p hp).1
    rw [e] at this; exact Nat.lt_irrefl _ this⟩
/-- the rest of the list as it was, one object changed -/
theorem St.upd {a : Addr} {o o' : Obj} {pre post : List (Addr × Obj)} {f : Obj → Obj} (S : St h₀ L m (pre ++ (a, o) :: post) h) (e : f o = o') (hf : o'.isFreed = false) :
    St h₀ L m (pre ++ (a, o') :: post) (h.update a f) := by
  have D := S.D
  rw [List.map_append, List.map_cons] at D
  have D' := List.nodup_append.mp D
  obtain ⟨F, N⟩ := news_upd S.F S.N (fun p hp => D'.2.2 _ (List.mem_map_of_mem hp) _ (List.mem_cons_self ..)) (fun p hp q => (List.nodup_cons.mp D'.2.1).1 (List.mem_map.mpr ⟨p, hp, q⟩)) e hf
  exact ⟨F, N, by rw [List.map_append, List.map_cons]; exact D⟩
theorem St.mem {a : Addr} {o : Obj} (S : St h₀ L m os h) (hm : (a, o) ∈ os) : h.get? a = some o := (S.N _ hm).1
theorem St.tail {p : Addr × Obj} (S : St h₀ L m (p :: os) h) : St h₀ L m os h := ⟨S.F, fun q hq => S.N q (.tail _ hq), (List.nodup_cons.mp S.D).2⟩
end

/-- what a call of a def leaves to be shown -/
theorem call_fn {prog : Program} {w : World} {A : Around} {E : Value → Shared → Prop} {s : Shared} {Q : Value → Shared → Prop} {name qual : Str} {params : Arguments} {body : List Stmt} {scope : Scope} {dV kV doc pm cdv ct oc : Value} {an od : Option Addr} {osl : Array (Option Value)} {f : Addr} {args : List Value} {binds : List (Str × Value)}
    (C : Cx w s.heap) (ho : (KP w).lookup f = some ⟨oc, od, .func (fnOf name qual params body scope dV kV doc pm an cdv ct), osl⟩) (hcd : codeIn (KP w) cdv qual = true) (hroom : A.depth < recursionLimit)
    (hbind : bindArgs (fnOf name qual params body scope dV kV doc pm an cdv ct) ⟨args, []⟩ = pure binds) (hloc : (binds.all fun x => decide (scope.names.lookup x.1 = some .local)) = true)
    (h : ∀ h₁ t, St s.heap s.heap.objs.size (fun y => binds.reverse.lookup y) [] h₁ →
      wpAny (model prog w) (A.deeper (envOf qual scope s.heap.objs.size f cdv)) (execs body (envOf qual scope s.heap.objs.size f cdv))
        (fun fl s' => Q (match fl with | .ret v => v | _ => .none) s') (fun _ _ => False) ⟨h₁, s.gens, s.drawn, t, s.os⟩)
    (hcell : ∀ x ∈ scope.names, x.2 ≠ .cell := by decide) (hco : scope.isCoroutine = false := by rfl) (hgen : scope.isGenerator = false := by rfl) (hk : scope.kind = .function := by rfl) :
    wpAny (model prog w) A (call (.ref f) args) Q E s := by
  refine wpAny_call (codeAny_call_def (fd := fnOf name qual params body scope dV kV doc pm an cdv ct) (body := body) (binds := binds) hroom (C.X _ _ ho) rfl C.lim (codeRec_of C.X hcd) rfl (BindsTo.of_eq hbind) hcell (locs hloc) (fun h₁ hns k => ?_) hco hgen hk)
  exact wpAny_mono (h h₁ _ ⟨⟨hns, k, Nat.le_refl _⟩, News.nil, List.nodup_nil⟩) (fun fl s' q => q) (fun _ _ x => x.elim)

section
variable {prog : Program} {w : World} {A : Around} {E : Value → Shared → Prop} {h₀ h : Heap} {L : Addr} {m : Str → Option Value} {os : List (Addr × Obj)} {gs : Array GenState} {dr : Drawn} {t : Nat} {o : OsState} {name : Str} {scope : Scope} {a : Addr} {cd : Value} {pos : Pos}

/-- a local name read -/
theorem rd {x : Str} {v : Value} {Q : Value → Shared → Prop} (S : St h₀ L m os h) (hv : m x = some v) (q : Q v ⟨h, gs, dr, t, o⟩)
    (hk : scope.kind = .function := by rfl) (hl : (envOf name scope L a cd).kindOf x = some .local := by rfl) (hd : (x == ("__debug__" : Str)) = false := by decide) :
    wpAny (model prog w) A (eval (.Name x pos) (envOf name scope L a cd)) Q E ⟨h, gs, dr, t, o⟩ := ld S.F hv q hk hl hd
theorem rdn {x : Str} {v : Value} {Q : Value → Shared → Prop} (S : St h₀ L m os h) (hv : m x = some v) (q : Q v ⟨h, gs, dr, t, o⟩)
    (hk : scope.kind = .function := by rfl) (hl : (envOf name scope L a cd).kindOf x = some .local := by rfl) :
    wpAny (model prog w) A (loadName (envOf name scope L a cd) x) Q E ⟨h, gs, dr, t, o⟩ := ldn S.F hv q hk hl
/-- a local name stored -/
theorem sto {x : Str} {v : Value} {Q : Unit → Shared → Prop} (S : St h₀ L m os h)
    (q : ∀ h' t', St h₀ L (fun y => if y = x then some v else m y) os h' → Q () ⟨h', gs, dr, t', o⟩)
    (hk : scope.kind = .function := by rfl) (hl : (envOf name scope L a cd).kindOf x = some .local := by rfl) :
    wpAny (model prog w) A (storeName (envOf name scope L a cd) x v) Q E ⟨h, gs, dr, t, o⟩ :=
  wpAny_storeName_local hl S.F.ns (fun h' hn hs => q h' _ (S.put hn hs))
    (by show (scope.kind == .class || (scope.kind == .module && L != mainGlobals)) = false; rw [hk]; rfl)
end
section
variable {prog : Program} {w : World} {A : Around} {E : Value → Shared → Prop} {h₀ h : Heap} {L : Addr} {m : Str → Option Value} {os : List (Addr × Obj)} {gs : Array GenState} {dr : Drawn} {t : Nat} {o : OsState} {name : Str} {scope : Scope} {a : Addr} {cd : Value} {pos : Pos} {env : Env}
variable {x y : Str} {i j : Int} {u v : Tok} {p r : Bool} {Q : Value → Shared → Prop} {B : Bool → Shared → Prop}

theorem cInt {k : Nat} (q : ∀ t' u, Q (.int i u) ⟨h, gs, dr, t', o⟩) : wpAny (model prog w) A (eval (.Constant (.int i) k pos) env) Q E ⟨h, gs, dr, t, o⟩ := wpAny_Constant_int (q _ _)
theorem cStr {k : Nat} (q : ∀ t' u, Q (.str x u) ⟨h, gs, dr, t', o⟩) : wpAny (model prog w) A (eval (.Constant (.str x) k pos) env) Q E ⟨h, gs, dr, t, o⟩ := wpAny_Constant_str (q _ _)
theorem addI (q : ∀ t' u, Q (.int (i + j) u) ⟨h, gs, dr, t', o⟩) : wpAny (model prog w) A (binaryOp .Add (.int i u) (.int j v)) Q E ⟨h, gs, dr, t, o⟩ := P.add_int (q _ _)
theorem subI (q : ∀ t' u, Q (.int (i - j) u) ⟨h, gs, dr, t', o⟩) : wpAny (model prog w) A (binaryOp .Sub (.int i u) (.int j v)) Q E ⟨h, gs, dr, t, o⟩ := P.sub_int (q _ _)
theorem mulI (hm : IntMulOk i j) (q : ∀ t' u, Q (.int (i * j) u) ⟨h, gs, dr, t', o⟩) : wpAny (model prog w) A (binaryOp .Mult (.int i u) (.int j v)) Q E ⟨h, gs, dr, t, o⟩ := P.mul_int (q _ _) hm
theorem iaddI (q : ∀ t' u, Q (.int (i + j) u) ⟨h, gs, dr, t', o⟩) : wpAny (model prog w) A (inplaceOp .Add (.int i u) (.int j v)) Q E ⟨h, gs, dr, t, o⟩ := P.iadd_int (q _ _)
theorem isubI (q : ∀ t' u, Q (.int (i - j) u) ⟨h, gs, dr, t', o⟩) : wpAny (model prog w) A (inplaceOp .Sub (.int i u) (.int j v)) Q E ⟨h, gs, dr, t, o⟩ := P.isub_int (q _ _)
theorem imulI (hm : IntMulOk i j) (q : ∀ t' u, Q (.int (i * j) u) ⟨h, gs, dr, t', o⟩) : wpAny (model prog w) A (inplaceOp .Mult (.int i u) (.int j v)) Q E ⟨h, gs, dr, t, o⟩ := P.imul_int (q _ _) hm
theorem negI (q : ∀ t' u, Q (.int (-i) u) ⟨h, gs, dr, t', o⟩) : wpAny (model prog w) A (unaryOp .USub (.int i u)) Q E ⟨h, gs, dr, t, o⟩ := P.neg_int (q _ _)
theorem subB (q : ∀ t' u, Q (.int (b2i p - b2i r) u) ⟨h, gs, dr, t', o⟩) : wpAny (model prog w) A (binaryOp .Sub (.bool p) (.bool r)) Q E ⟨h, gs, dr, t, o⟩ := sub_bool (q _ _)
theorem eqI (q : Q (.bool (i == j)) ⟨h, gs, dr, t, o⟩) : wpAny (model prog w) A (compareOp .Eq (.int i u) (.int j v)) Q E ⟨h, gs, dr, t, o⟩ := P.eq_int q
theorem neI (q : Q (.bool (i != j)) ⟨h, gs, dr, t, o⟩) : wpAny (model prog w) A (compareOp .NotEq (.int i u) (.int j v)) Q E ⟨h, gs, dr, t, o⟩ := P.ne_int q
theorem ltI (q : Q (.bool (decide (i < j))) ⟨h, gs, dr, t, o⟩) : wpAny (model prog w) A (compareOp .Lt (.int i u) (.int j v)) Q E ⟨h, gs, dr, t, o⟩ := P.lt_int q
theorem leI (q : Q (.bool (decide (i ≤ j))) ⟨h, gs, dr, t, o⟩) : wpAny (model prog w) A (compareOp .LtE (.int i u) (.int j v)) Q E ⟨h, gs, dr, t, o⟩ := P.le_int q
theorem gtI (q : Q (.bool (decide (i > j))) ⟨h, gs, dr, t, o⟩) : wpAny (model prog w) A (compareOp .Gt (.int i u) (.int j v)) Q E ⟨h, gs, dr, t, o⟩ := P.gt_int q
theorem geI (q : Q (.bool (decide (i ≥ j))) ⟨h, gs, dr, t, o⟩) : wpAny (model prog w) A (compareOp .GtE (.int i u) (.int j v)) Q E ⟨h, gs, dr, t, o⟩ := P.ge_int q
theorem trI (q : B (i != 0) ⟨h, gs, dr, t, o⟩) : wpAny (model prog w) A (truthy (.int i u)) B E ⟨h, gs, dr, t, o⟩ := P.truthy_int q
theorem trB (q : B p ⟨h, gs, dr, t, o⟩) : wpAny (model prog w) A (truthy (.bool p)) B E ⟨h, gs, dr, t, o⟩ := wpAny_truthy_bool q
theorem trS (hx : x.length ≤ sizeLine) (q : ∀ t', B ((x.length : Int) != 0) ⟨h, gs, dr, t', o⟩) : wpAny (model prog w) A (truthy (.str x u)) B E ⟨h, gs, dr, t, o⟩ :=
  P.truthy_str (by rw [sizeLine_eq] at hx; omega) (q _)
theorem addS (hx : x.length + y.length ≤ sizeLine) (q : ∀ t' u, Q (.str (x ++ y) u) ⟨h, gs, dr, t', o⟩) : wpAny (model prog w) A (binaryOp .Add (.str x u) (.str y v)) Q E ⟨h, gs, dr, t, o⟩ := SB.add (fun _ _ => q _ _) hx
theorem iaddS (hx : x.length + y.length ≤ sizeLine) (q : ∀ t' u, Q (.str (x ++ y) u) ⟨h, gs, dr, t', o⟩) : wpAny (model prog w) A (inplaceOp .Add (.str x u) (.str y v)) Q E ⟨h, gs, dr, t, o⟩ := SB.iadd (fun _ _ => q _ _) hx
theorem mulS (hx : MulOk x i) (q : ∀ t' u, Q (.str (Txt.mul x i) u) ⟨h, gs, dr, t', o⟩) : wpAny (model prog w) A (binaryOp .Mult (.str x u) (.int i v)) Q E ⟨h, gs, dr, t, o⟩ := SB.mul hx (fun _ _ => q _ _)
theorem eqS (q : Q (.bool (x == y)) ⟨h, gs, dr, t, o⟩) : wpAny (model prog w) A (compareOp .Eq (.str x u) (.str y v)) Q E ⟨h, gs, dr, t, o⟩ := PyProof.Rows.eq_str q
theorem neS (q : Q (.bool (x != y)) ⟨h, gs, dr, t, o⟩) : wpAny (model prog w) A (compareOp .NotEq (.str x u) (.str y v)) Q E ⟨h, gs, dr, t, o⟩ := PyProof.Rows.ne_str q
theorem ltS (q : Q (.bool (x.cps.toList < y.cps.toList)) ⟨h, gs, dr, t, o⟩) : wpAny (model prog w) A (compareOp .Lt (.str x u) (.str y v)) Q E ⟨h, gs, dr, t, o⟩ := P.lt_str q
theorem gtS (q : Q (.bool (y.cps.toList < x.cps.toList)) ⟨h, gs, dr, t, o⟩) : wpAny (model prog w) A (compareOp .Gt (.str x u) (.str y v)) Q E ⟨h, gs, dr, t, o⟩ := P.gt_str q
theorem lenS (hx : x.length ≤ sizeLine) (q : ∀ t' u, Q (.int x.length u) ⟨h, gs, dr, t', o⟩) : wpAny (model prog w) A (call (.builtin "len") [.str x u]) Q E ⟨h, gs, dr, t, o⟩ :=
  P.len_str (by rw [sizeLine_eq] at hx; omega) (q _ _)
theorem countS (q : ∀ t' u, Q (.int (Txt.count x y) u) ⟨h, gs, dr, t', o⟩) : wpAny (model prog w) A (call (.builtin "str.count") [.str x u, .str y v]) Q E ⟨h, gs, dr, t, o⟩ := SC.count (q _ _)
theorem findS (q : ∀ t' u, Q (.int (Txt.find x y) u) ⟨h, gs, dr, t', o⟩) : wpAny (model prog w) A (call (.builtin "str.find") [.str x u, .str y v]) Q E ⟨h, gs, dr, t, o⟩ := SC.find (q _ _)
section
variable {value slice : Expr}
theorem itemS (h0 : 0 ≤ i) (h1 : i < x.length) (hx : x.length ≤ sizeLine) (q : ∀ t' u, Q (.str (Txt.item x i) u) ⟨h, gs, dr, t', o⟩)
    (hs : subscripted slice false (.str x u) (.int i v) = operate [.str x u, .int i v] (getItem (.str x u) (.int i v)) := by with_unfolding_all rfl)
    (ht : ∀ r, letTemporaryGo value (.str x u) r = pure () := by intro _; with_unfolding_all rfl) :
    wpAny (model prog w) A (subscriptTail value slice (.str x u) (.int i v)) Q E ⟨h, gs, dr, t, o⟩ :=
  item_str (by rw [sizeLine_eq] at hx; unfold fitsSsize; simp; omega) (by omega) h1 (fun _ => q _ _) hs ht
theorem sliceNS (S : St h₀ L m os h) (hx : x.length ≤ sizeLine) (q : ∀ h' t' u, St h₀ L m os h' → Q (.str (Txt.slice x none (some j)) u) ⟨h', gs, dr, t', o⟩)
    (hs : subscripted slice false (.str x u) (.ref h.objs.size) = operate [.ref h.objs.size, .str x u] (getItem (.str x u) (.ref h.objs.size)) := by with_unfolding_all rfl)
    (ht : ∀ r, letTemporaryGo value (.str x u) r = pure () := by intro _; with_unfolding_all rfl) :
    wpAny (model prog w) A (subscriptTail value slice (.str x u) (.ref h.objs.size)) Q E ⟨h.push { cls := .type "slice", data := .fields #[.none, .int j v, .none] }, gs, dr, t, o⟩ :=
  slice_strN_ns (s := ⟨h, gs, dr, t, o⟩) S.F S.N (fun h' t' k F N => q h' k t' ⟨F, N, S.D⟩) hs ht hx
theorem sliceSN (S : St h₀ L m os h) (hx : x.length ≤ sizeLine) (q : ∀ h' t' u, St h₀ L m os h' → Q (.str (Txt.slice x (some j) none) u) ⟨h', gs, dr, t', o⟩)
    (hs : subscripted slice false (.str x u) (.ref h.objs.size) = operate [.ref h.objs.size, .str x u] (getItem (.str x u) (.ref h.objs.size)) := by with_unfolding_all rfl)
    (ht : ∀ r, letTemporaryGo value (.str x u) r = pure () := by intro _; with_unfolding_all rfl) :
    wpAny (model prog w) A (subscriptTail value slice (.str x u) (.ref h.objs.size)) Q E ⟨h.push { cls := .type "slice", data := .fields #[.int j v, .none, .none] }, gs, dr, t, o⟩ :=
  slice_strN_sn (s := ⟨h, gs, dr, t, o⟩) S.F S.N (fun h' t' k F N => q h' k t' ⟨F, N, S.D⟩) hs ht hx
theorem sliceSS {v' : Tok} (S : St h₀ L m os h) (hx : x.length ≤ sizeLine) (q : ∀ h' t' u, St h₀ L m os h' → Q (.str (Txt.slice x (some i) (some j)) u) ⟨h', gs, dr, t', o⟩)
    (hs : subscripted slice false (.str x u) (.ref h.objs.size) = operate [.ref h.objs.size, .str x u] (getItem (.str x u) (.ref h.objs.size)) := by with_unfolding_all rfl)
    (ht : ∀ r, letTemporaryGo value (.str x u) r = pure () := by intro _; with_unfolding_all rfl) :
    wpAny (model prog w) A (subscriptTail value slice (.str x u) (.ref h.objs.size)) Q E ⟨h.push { cls := .type "slice", data := .fields #[.int i v, .int j v', .none] }, gs, dr, t, o⟩ :=
  slice_strN_ss (s := ⟨h, gs, dr, t, o⟩) S.F S.N (fun h' t' k F N => q h' k t' ⟨F, N, S.D⟩) hs ht hx
end
theorem rdG {x : Str} {v : Value} (C : Cx w h₀) (S : St h₀ L m os h) (e : nsIn (KP w) mainGlobals x = some (some v)) (q : Q v ⟨h, gs, dr, t, o⟩)
    (hk : scope.kind = .function := by rfl) (hx : (envOf name scope L a cd).kindOf x = some .globalImplicit := by rfl) (hd : (x == ("__debug__" : Str)) = false := by decide) :
    wpAny (model prog w) A (eval (.Name x pos) (envOf name scope L a cd)) Q E ⟨h, gs, dr, t, o⟩ :=
  let ⟨_, g⟩ := C.g
  ld_global_at (s := ⟨h, gs, dr, t, o⟩) S.F g (mg_of C.X g e) q hk hx hd
theorem rdB {x : Str} {v : Value} (C : Cx w h₀) (S : St h₀ L m os h) (e : nsIn (KP w) mainGlobals x = some none) (hb : bootBuiltins x = some v) (q : Q v ⟨h, gs, dr, t, o⟩) (hn : x ≠ "__name__" := by decide)
    (hk : scope.kind = .function := by rfl) (hx : (envOf name scope L a cd).kindOf x = some .globalImplicit := by rfl) (hd : (x == ("__debug__" : Str)) = false := by decide) :
    wpAny (model prog w) A (eval (.Name x pos) (envOf name scope L a cd)) Q E ⟨h, gs, dr, t, o⟩ :=
  let ⟨_, g⟩ := C.g
  let ⟨_, b, e'⟩ := C.b
  ld_builtin_at (s := ⟨h, gs, dr, t, o⟩) S.F g (mg_none_of C.X g e) b ((e' x hn).trans hb) q hk hx hd
theorem cwm {id : String} {v0 : Value} {e : Expr} {rest : List Expr} {s : Shared} (q : wpAny (model prog w) A (spliced (backTo pos (starEach (e :: rest) env))) (fun vs s₁ => wpAny (model prog w) A (call (.builtin id) (v0 :: vs)) Q E s₁) E s)
    (he : starEach (e :: rest) env = (false, eval e env) :: starEach rest env := by rfl) (hplain : (backTo pos (starEach rest env)).any (·.1) = false := by rfl) :
    wpAny (model prog w) A (callWith pos (.builtin id) [v0] (backTo pos (starEach (e :: rest) env)) []) Q E s := callWith_method1 q he hplain
end
section
variable {prog : Program} {w : World} {A : Around} {E : Value → Shared → Prop} {s : Shared} {env : Env} {pos : Pos}
theorem while_ok {test : Expr} {body : List Stmt} {Q : Flow → Shared → Prop} (I : Nat → Shared → Prop)
    (turn : ∀ n s, I n s → wpAny (model prog w) A (isTrue test env (eval test env))
      (fun b s₂ => if b then wpAny (model prog w) A (execs body env) (fun f s₃ => match f with | .next | .cont => ∃ k, k < n ∧ I k s₃ | .brk => Q .next s₃ | .ret v => Q (.ret v) s₃) (fun _ _ => False) s₂
        else Q .next s₂) (fun _ _ => False) s) (n : Nat) (i : I n s) :
    wpAny (model prog w) A (exec (.While test body [] pos) env) Q E s := by
  refine wpAny_While (codeAny_whileLoop I (fun n s i => ?_) n i)
  refine wpAny_mono (turn n s i) (fun b s₂ q => ?_) (fun _ _ x => x.elim)
  cases b with
  | true =>
    refine wpAny_mono q (fun f s₃ q => ?_) (fun _ _ x => x.elim)
    cases f <;> exact q
  | false => exact wpAny_execs_nil q
end
section
variable {prog : Program} {w : World} {A : Around} {E : Value → Shared → Prop} {s : Shared} {env : Env} {pos : Pos}
theorem while_seq {test : Expr} {body rest : List Stmt} {Q : Flow → Shared → Prop} (I : Nat → Shared → Prop) (X : Shared → Prop)
    (turn : ∀ n s, I n s → wpAny (model prog w) A (isTrue test env (eval test env))
      (fun b s₂ => if b then wpAny (model prog w) A (execs body env) (fun f s₃ => match f with | .next | .cont => ∃ k, k < n ∧ I k s₃ | .brk => X s₃ | .ret v => Q (.ret v) s₃) (fun _ _ => False) s₂
        else X s₂) (fun _ _ => False) s) (n : Nat) (i : I n s)
    (k : ∀ s', X s' → wpAny (model prog w) A (execs rest env) Q E s') :
    wpAny (model prog w) A (execs (.While test body [] pos :: rest) env) Q E s := by
  refine wpAny_execs_cons (while_ok I (fun n s i => ?_) n i)
  refine wpAny_mono (turn n s i) (fun b s₂ q => ?_) (fun _ _ x => x)
  cases b with
  | true =>
    refine wpAny_mono q (fun f s₃ q => ?_) (fun _ _ x => x)
    cases f with
    | next => exact q
    | cont => exact q
    | brk => exact k _ q
    | ret v => exact q
  | false => exact k _ q
end
section
variable {prog : Program} {w : World} {A : Around} {E : Value → Shared → Prop} {h₀ h : Heap} {L : Addr} {m : Str → Option Value} {con os : List (Addr × Obj)} {gs : Array GenState} {dr : Drawn} {t : Nat} {o : OsState} {name : Str} {scope : Scope} {a : Addr} {cd : Value} {pos : Pos} {Q : Flow → Shared → Prop}
theorem for_loop {x : Str} {px : Pos} {body : List Stmt} {I : Addr} {oI : Obj} {fp : List Addr} {n : Nat} {P : Nat → Value → Prop} {Wt : Nat → Heap → Prop} (W : Walks prog w A I fp [I] n P Wt)
    (hW : ∀ i h, Wt i h → ∃ oI, h.get? I = some oI)
    (hfp : ∀ b ∈ fp, b = I ∨ (∃ ob, h₀.get? b = some ob) ∨ b ∈ con.map Prod.fst)
    (J : Nat → (Str → Option Value) → List (Addr × Obj) → Prop)
    (turn : ∀ i m os v oI h t, i < n → P i v → J i m os → St h₀ L (fun y => if y = x then some v else m y) ((I, oI) :: (con ++ os)) h →
      wpAny (model prog w) A (execs body (envOf name scope L a cd)) (fun f s' => match f with
        | .next | .cont => ∃ m' os' h' t', s' = ⟨h', gs, dr, t', o⟩ ∧ St h₀ L m' ((I, oI) :: (con ++ os')) h' ∧ J (i + 1) m' os'
        | .brk => Q .next s'
        | .ret v => Q (.ret v) s') (fun _ _ => False) ⟨h, gs, dr, t, o⟩)
    (fin : ∀ m os h t, J n m os → St h₀ L m (con ++ os) h → Q .next ⟨h, gs, dr, t, o⟩)
    (S : St h₀ L m ((I, oI) :: (con ++ os)) h) (wt : Wt 0 h) (j : J 0 m os) 
    (hk : scope.kind = .function := by rfl) (hl : (envOf name scope L a cd).kindOf x = some .local := by rfl) :
    codeAny (model prog w) A (.forLoop (.Name x px) (.ref I) body [] (envOf name scope L a cd)) (fun r s' => match r with | .ok f => Q f s' | .error e => cameBackBy (model prog w) A (envOf name scope L a cd) E e s') ⟨h, gs, dr, t, o⟩ := by
  refine codeAny_forLoop_any (fun k s => ∃ i m os oI h t, k = n - i ∧ i ≤ n ∧ s = ⟨h, gs, dr, t, o⟩ ∧ St h₀ L m ((I, oI) :: (con ++ os)) h ∧ Wt i h ∧ J i m os) (fun k s i' => ?_) n ⟨0, m, os, oI, h, t, rfl, Nat.zero_le _, rfl, S, wt, j⟩
  obtain ⟨i, m, os, oI, h, t, hk', hi, rfl, S, wt, j⟩ := i'
  have keepAll : ∀ h', (∀ b o, b ∉ [I] → h.get? b = some o → h'.get? b = some o) → St h₀ L m (con ++ os) h' := fun h' k => by
    have T := S.tail
    have nI : ∀ p ∈ con ++ os, p.1 ∉ [I] := fun p hp q => by
      have := (List.nodup_cons.mp S.D).1
      exact this (List.mem_map.mpr ⟨p, hp, by simpa using q⟩)
    have nL : L ∉ [I] := fun q => (S.N _ (.head _)).2.1 (by simpa using (List.mem_singleton.mp q).symm)
    refine ⟨⟨?_, fun b o e => ?_, T.F.above⟩, fun p hp => ⟨k _ _ (nI p hp) (T.N p hp).1, (T.N p hp).2⟩, T.D⟩
    · obtain ⟨oL, es, ep, e, r⟩ := T.F.ns
      exact ⟨oL, es, ep, k _ _ nL e, r⟩
    · refine k b o (fun q => ?_) (T.F.keep b o e)
      have := (S.N _ (.head _)).2.2
      rw [List.mem_singleton.mp q] at e
      rw [this] at e; cases e
  rcases Nat.lt_or_ge i n with hlt | hge
  · refine W.item i ⟨h, gs, dr, t, o⟩ _ _ hlt wt (fun v h' tk pv wt' kp => ?_)
    refine wpAny_pure (M := model prog w) (a := ()) ?_
    refine wpAny_assign_Name ?_
    obtain ⟨oI', hI'⟩ := hW _ _ wt'
    have T := keepAll h' kp
    have S' : St h₀ L m ((I, oI') :: (con ++ os)) h' := ⟨T.F, fun p hp => by
      rcases List.mem_cons.mp hp with rfl | hp
      · exact ⟨hI', (S.N _ (.head _)).2⟩
      · exact T.N p hp, S.D⟩
    refine wpAny_storeName_local (h := fun h'' hn hs => ?_) hl S'.F.ns
      (by show (scope.kind == .class || (scope.kind == .module && L != mainGlobals)) = false; rw [hk]; rfl)
    have S'' := S'.put hn hs
    refine wpAny_mono (turn i m os v oI' h'' _ hlt pv j S'') (fun f s' q => ?_) (fun _ _ x => x.elim)
    have key : (∃ m' os' h₁ t', s' = ⟨h₁, gs, dr, t', o⟩ ∧ St h₀ L m' ((I, oI') :: (con ++ os')) h₁ ∧ J (i + 1) m' os') → ∃ k', k' < k ∧ ∃ i m os oI h t, k' = n - i ∧ i ≤ n ∧ s' = ⟨h, gs, dr, t, o⟩ ∧ St h₀ L m ((I, oI) :: (con ++ os)) h ∧ Wt i h ∧ J i m os := fun q => by
      obtain ⟨m', os', h₁, t', e, S₁, j'⟩ := q
      refine ⟨n - (i + 1), by omega, i + 1, m', os', oI', h₁, t', rfl, hlt, e, S₁, ?_, j'⟩
      refine W.frame _ _ _ wt' (fun b hb ob e => ?_)
      rcases hfp b hb with rfl | ⟨ob', e'⟩ | hc
      · rw [hI'] at e; cases e; exact S₁.mem (.head _)
      · rw [S'.F.keep _ _ e'] at e; cases e; exact S₁.F.keep _ _ e'
      · obtain ⟨p, hp, rfl⟩ := List.mem_map.mp hc
        have := S'.mem (a := p.1) (o := p.2) (.tail _ (List.mem_append_left _ hp))
        rw [this] at e; cases e
        exact S₁.mem (a := p.1) (o := p.2) (.tail _ (List.mem_append_left _ hp))
    cases f with
    | next => exact key q
    | cont => exact key q
    | brk => exact q
    | ret v => exact q
  · have e : i = n := Nat.le_antisymm hi hge
    subst e
    refine W.done ⟨h, gs, dr, t, o⟩ _ _ wt (fun h' tk kp => ?_)
    exact wpAny_execs_nil (fin m os h' tk j (keepAll h' kp))
end
noncomputable abbrev lob (vs : List Value) (n : Nat) : Obj := { cls := .type "list", data := .seq vs.toArray n }
noncomputable abbrev tob (vs : List Value) : Obj := { cls := .type "tuple", data := .seq vs.toArray }
theorem isL {h₀ h : Heap} {L l : Addr} {m : Str → Option Value} {os : List (Addr × Obj)} {vs : List Value} {n : Nat} (S : St h₀ L m os h) (hm : (l, lob vs n) ∈ os) : h.IsList l vs.toArray := ⟨_, S.mem hm, rfl, n, rfl⟩
theorem isT {h₀ h : Heap} {L l : Addr} {m : Str → Option Value} {os : List (Addr × Obj)} {vs : List Value} (S : St h₀ L m os h) (hm : (l, tob vs) ∈ os) : IsTup h l vs.toArray := ⟨_, S.mem hm, rfl, 0, rfl⟩

noncomputable def find4 (x y : Str) (i j : Int) : Int := match Builtin.Str.occurrences x y (fromIndex x.length i) (min (fromIndex x.length j) x.length) 1 with | k :: _ => (k : Int) | [] => -1
theorem gives_find4 (x y : Str) (i j : Int) (t u v z : Tok) : Gives (Builtin.«str.find» ⟨[.str x t, .str y u, .int i v, .int j z], []⟩) (.int (find4 x y i j)) := by
  show Gives (match Builtin.Str.occurrences x y (fromIndex x.length i) (min (fromIndex x.length j) x.length) 1 with | k :: _ => retInt k | [] => (do rule "str.find.not-found"; retInt (-1))) _
  unfold find4
  cases Builtin.Str.occurrences x y (fromIndex x.length i) (min (fromIndex x.length j) x.length) 1 with
  | nil => exact .rule (.of_eq rfl)
  | cons k _ => exact .of_eq rfl
section
variable {prog : Program} {w : World} {A : Around} {E : Value → Shared → Prop} {h₀ h : Heap} {L : Addr} {m : Str → Option Value} {os : List (Addr × Obj)} {gs : Array GenState} {dr : Drawn} {t : Nat} {o : OsState} {name : Str} {scope : Scope} {a : Addr} {cd : Value} {pos : Pos} {env : Env}
variable {x y : Str} {i j : Int} {u v : Tok} {p r : Bool} {Q : Value → Shared → Prop} {B : Bool → Shared → Prop} {vs : List Value} {n : Nat} {l : Addr}

theorem findS4 {z z' : Tok} (q : ∀ t' u, Q (.int (find4 x y i j) u) ⟨h, gs, dr, t', o⟩) : wpAny (model prog w) A (call (.builtin "str.find") [.str x u, .str y v, .int i z, .int j z']) Q E ⟨h, gs, dr, t, o⟩ :=
  call_gives F.slot_str_find (typeIs_str _ _ _) F.entry_str_find (F.args_str_find_4 _ _ _ _) (gives_find4 x y i j u v z z') (q _ _)
theorem notInS (q : Q (.bool (!Txt.contains x y)) ⟨h, gs, dr, t, o⟩) : wpAny (model prog w) A (compareOp .NotIn (.str y u) (.str x v)) Q E ⟨h, gs, dr, t, o⟩ := SB.notContains q
theorem newL (S : St h₀ L m os h) (q : ∀ h' l, St h₀ L m ((l, lob vs 0) :: os) h' → h.get? l = none → Q (.ref l) ⟨h', gs, dr, t, o⟩) (hz : vs.length ≤ sizeLine) : wpAny (model prog w) A (newList vs) Q E ⟨h, gs, dr, t, o⟩ :=
  wpAny_newList (q _ _ (S.push _) (by cases e : h.get? h.objs.size with | none => rfl | some _ => exact absurd (Heap.lt_size e) (Nat.lt_irrefl _))) hz
theorem newT (S : St h₀ L m os h) (q : ∀ h' l, St h₀ L m ((l, tob vs) :: os) h' → h.get? l = none → Q (.ref l) ⟨h', gs, dr, t, o⟩) (hz : vs.length ≤ sizeLine) : wpAny (model prog w) A (newTuple vs) Q E ⟨h, gs, dr, t, o⟩ :=
  wpAny_newTuple (q _ _ (S.push _) (by cases e : h.get? h.objs.size with | none => rfl | some _ => exact absurd (Heap.lt_size e) (Nat.lt_irrefl _))) hz
theorem unpT {Q : List Value → Shared → Prop} (S : St h₀ L m os h) (hm : (l, tob vs) ∈ os) (hh : A.handled = none) (hn : n = vs.length) (q : ∀ h', St h₀ L m os h' → Q vs ⟨h', gs, dr, t, o⟩) :
    wpAny (model prog w) A (unpackItems (.ref l) n none) Q E ⟨h, gs, dr, t, o⟩ :=
  unpackItemsN_ (s := ⟨h, gs, dr, t, o⟩) S.F S.N (isT S hm) hh (by simpa using hn) (fun h' F N => by simpa using q h' ⟨F, N, S.D⟩)
theorem lenL (S : St h₀ L m os h) (hm : (l, lob vs n) ∈ os) (hz : vs.length ≤ sizeLine) (q : ∀ t' u, Q (.int vs.length u) ⟨h, gs, dr, t', o⟩) : wpAny (model prog w) A (call (.builtin "len") [.ref l]) Q E ⟨h, gs, dr, t, o⟩ :=
  call_len_list (s := ⟨h, gs, dr, t, o⟩) (isL S hm) (by rw [sizeLine_eq] at hz; rw [List.size_toArray]; omega) (by have := q (t + 1 + 1) (t + 1); simpa using this)
theorem itemL {value slice : Expr} {k : Int} {z : Value} (S : St h₀ L m os h) (hm : (l, lob vs n) ∈ os) (h0 : 0 ≤ k) (hz : vs.length ≤ sizeLine) (hx : vs[k.toNat]? = some z) (q : Q z ⟨h, gs, dr, t, o⟩)
    (hs : subscripted slice false (.ref l) (.int k u) = operate [.ref l, .int k u] (getItem (.ref l) (.int k u)) := by with_unfolding_all rfl) :
    wpAny (model prog w) A (subscriptTail value slice (.ref l) (.int k u)) Q E ⟨h, gs, dr, t, o⟩ := by
  have hl := isL S hm
  have hlt : k.toNat < vs.length := by
    rcases Nat.lt_or_ge k.toNat vs.length with e | e
    · exact e
    · rw [List.getElem?_eq_none e] at hx; cases hx
  rw [sizeLine_eq] at hz
  exact tail_any (s := ⟨h, gs, dr, t, o⟩) hl.typeIs slot_list_getitem.lookup (wpAny_getItem_list (s := ⟨h, gs, dr, t, o⟩) hl h0 (by omega) (by simpa using hx) q) hs
theorem itemLn {value slice : Expr} {k : Int} {z : Value} (S : St h₀ L m os h) (hm : (l, lob vs n) ∈ os) (h0 : k < 0) (h1 : -(vs.length : Int) ≤ k) (hz : vs.length ≤ sizeLine) (hx : vs[(k + vs.length).toNat]? = some z) (q : Q z ⟨h, gs, dr, t, o⟩)
    (hs : subscripted slice false (.ref l) (.int k u) = operate [.ref l, .int k u] (getItem (.ref l) (.int k u)) := by with_unfolding_all rfl) :
    wpAny (model prog w) A (subscriptTail value slice (.ref l) (.int k u)) Q E ⟨h, gs, dr, t, o⟩ := by
  have hl := isL S hm
  rw [sizeLine_eq] at hz
  exact tail_any (s := ⟨h, gs, dr, t, o⟩) hl.typeIs slot_list_getitem.lookup (wpAny_getItem_list_neg (s := ⟨h, gs, dr, t, o⟩) hl h0 (by simpa using h1) (by omega) (by simpa using hx) q) hs
/-- an iterator over a list -/
theorem itL (S : St h₀ L m os h) (hm : (l, lob vs n) ∈ os) (q : ∀ I oI h', St h₀ L m ((I, oI) :: os) h' → h'.IsListIter I l 0 ∧ h'.IsList l vs.toArray → l ≠ I → Q (.ref I) ⟨h', gs, dr, t, o⟩) :
    wpAny (model prog w) A (pyIter (.ref l)) Q E ⟨h, gs, dr, t, o⟩ := by
  have S' := S.push { cls := .type "list_iterator", data := .fields #[.ref l, .int 0 0] }
  refine wpAny_pyIter_list (s := ⟨h, gs, dr, t, o⟩) (isL S hm) (q _ _ _ S' ⟨⟨_, S'.mem (.head _), rfl, rfl⟩, isL S' (.tail _ hm)⟩ ?_)
  exact Nat.ne_of_lt (Heap.lt_size (S.mem hm))
end
theorem asg2 {M : Model} {A : Around} {E : Value → Shared → Prop} {s : Shared} {env : Env} {n1 n2 : Str} {v1 v2 : Value} {Q : Unit → Shared → Prop}
    (q : wpAny M A (storeName env n2 v2) (fun _ s₁ => wpAny M A (storeName env n1 v1) Q E s₁) E s) :
    wpAny M A (assignInOrder ([n1, n2].reverse.map fun n => bindName env n) [v1, v2].reverse) Q E s :=
  wpAny_assignInOrder_more (bindName_ (wpAny_mono q (fun _ _ h => wpAny_assignInOrder_more (bindName_ (wpAny_mono h (fun _ _ h => wpAny_assignInOrder_none h) fun _ _ x => x))) fun _ _ x => x))
theorem inK {w : World} {h₀ h : Heap} {L : Addr} {m : Str → Option Value} {os : List (Addr × Obj)} (C : Cx w h₀) (S : St h₀ L m os h) : (KP w).In h := (C.keeps S.F.keep).X
section
variable {prog : Program} {w : World} {A : Around} {E : Value → Shared → Prop} {h₀ h : Heap} {pos : Pos} {env : Env} {Q : Value → Shared → Prop}
theorem cwf {s : Shared} {f : Value} {e : Expr} {rest : List Expr} (C : Cx w h₀) (hk : keepIn (KP w) f = true) (q : wpAny (model prog w) A (spliced (backTo pos (starEach (e :: rest) env))) (fun vs s₁ => (KP w).In s₁.heap ∧ wpAny (model prog w) A (call f vs) Q E s₁) E s)
    (he : starEach (e :: rest) env = (false, eval e env) :: starEach rest env := by rfl) (hplain : (backTo pos (starEach rest env)).any (·.1) = false := by rfl) :
    wpAny (model prog w) A (callWith pos f [] (backTo pos (starEach (e :: rest) env)) []) Q E s := callWith_K C.X hk q he hplain
end
noncomputable abbrev SK (prog : Program) (w : World) := strKind prog w
/-- the pairs of a dict of texts with ints -/
noncomputable def IV : List (Str × Value) → List (Str × Int) → Prop
  | [], [] => True
  | p :: kvs, q :: D => p.1 = q.1 ∧ (∃ t, p.2 = .int q.2 t) ∧ IV kvs D
  | _, _ => False
noncomputable def DOb (prog : Program) (w : World) (o : Obj) (D : List (Str × Int)) : Prop := ∃ kvs, o.IsDictOf (SK prog w) kvs ∧ IV kvs D
noncomputable def getV (D : List (Str × Int)) (k : Str) : Option Int := (D.find? fun p => p.1 = k).map (·.2)
noncomputable def putD (D : List (Str × Int)) (k : Str) (v : Int) : List (Str × Int) := if D.any (fun p => p.1 = k) then D.map (fun p => if p.1 = k then (p.1, v) else p) else D ++ [(k, v)]
noncomputable def delD (D : List (Str × Int)) (k : Str) : List (Str × Int) := D.filter fun p => decide (p.1 ≠ k)
theorem IV.len : ∀ {kvs : List (Str × Value)} {D : List (Str × Int)}, IV kvs D → kvs.length = D.length
  | [], [], _ => rfl
  | _ :: _, _ :: _, ⟨_, _, h⟩ => by rw [List.length_cons, List.length_cons, h.len]
  | [], _ :: _, h => h.elim
  | _ :: _, [], h => h.elim
theorem IV.get : ∀ {kvs : List (Str × Value)} {D : List (Str × Int)}, IV kvs D → ∀ k, (∃ i t, getV D k = some i ∧ valueAt kvs k = some (.int i t)) ∨ (getV D k = none ∧ valueAt kvs k = none)
  | [], [], _, _ => .inr ⟨rfl, rfl⟩
  | (a, b) :: kvs, (c, e) :: D, ⟨h1, ⟨t, h2⟩, h⟩, k => by
    dsimp only at h1 h2
    subst h1; subst h2
    unfold getV valueAt
    by_cases hk : a = k
    · exact .inl ⟨e, t, by simp [hk], by simp [hk]⟩
    · have := h.get k
      unfold getV valueAt at this
      simpa [List.find?_cons, hk] using this
  | [], _ :: _, h, _ => h.elim
  | _ :: _, [], h, _ => h.elim
theorem IV.any : ∀ {kvs : List (Str × Value)} {D : List (Str × Int)}, IV kvs D → ∀ k, kvs.any (fun p => p.1 = k) = D.any (fun p => p.1 = k)
  | [], [], _, _ => rfl
  | (a, b) :: kvs, (c, e) :: D, ⟨h1, _, h⟩, k => by
    dsimp only at h1; subst h1
    rw [List.any_cons, List.any_cons, h.any k]
  | [], _ :: _, h, _ => h.elim
  | _ :: _, [], h, _ => h.elim
theorem IV.map : ∀ {kvs : List (Str × Value)} {D : List (Str × Int)}, IV kvs D → ∀ k i t, IV (kvs.map (fun kv => if kv.1 = k then (kv.1, .int i t) else kv)) (D.map (fun p => if p.1 = k then (p.1, i) else p))
  | [], [], _, _, _, _ => trivial
  | (a, b) :: kvs, (c, e) :: D, ⟨h1, ⟨u, h2⟩, h⟩, k, i, t => by
    dsimp only at h1 h2; subst h1; subst h2
    rw [List.map_cons, List.map_cons]
    by_cases hk : a = k
    · simp only [hk, if_true]; exact ⟨rfl, ⟨t, rfl⟩, h.map k i t⟩
    · simp only [hk, if_false]; exact ⟨rfl, ⟨u, rfl⟩, h.map k i t⟩
  | [], _ :: _, h, _, _, _ => h.elim
  | _ :: _, [], h, _, _, _ => h.elim
theorem IV.snoc : ∀ {kvs : List (Str × Value)} {D : List (Str × Int)}, IV kvs D → ∀ k i t, IV (kvs ++ [(k, .int i t)]) (D ++ [(k, i)])
  | [], [], _, _, _, t => ⟨rfl, ⟨t, rfl⟩, trivial⟩
  | _ :: _, _ :: _, ⟨h1, h2, h⟩, k, i, t => ⟨h1, h2, h.snoc k i t⟩
  | [], _ :: _, h, _, _, _ => h.elim
  | _ :: _, [], h, _, _, _ => h.elim
theorem IV.put {kvs : List (Str × Value)} {D : List (Str × Int)} (h : IV kvs D) (k : Str) (i : Int) (t : Tok) : IV (stored kvs k (.int i t)) (putD D k i) := by
  unfold stored putD
  rw [h.any k]
  split
  · exact h.map k i t
  · exact h.snoc k i t
theorem IV.del : ∀ {kvs : List (Str × Value)} {D : List (Str × Int)}, IV kvs D → ∀ k, IV (without kvs k) (delD D k)
  | [], [], _, _ => trivial
  | (a, b) :: kvs, (c, e) :: D, ⟨h1, h2, h⟩, k => by
    dsimp only at h1; subst h1
    have := h.del k
    unfold without delD at this ⊢
    by_cases hk : a = k
    · simpa [List.filter_cons, hk] using this
    · simp only [List.filter_cons, hk, ne_eq, not_false_eq_true, decide_true, if_true]
      exact ⟨rfl, h2, this⟩
  | [], _ :: _, h, _ => h.elim
  | _ :: _, [], h, _ => h.elim
theorem IV.item : ∀ {kvs : List (Str × Value)} {D : List (Str × Int)}, IV kvs D → ∀ {i : Nat} {k : Str} {v : Value}, kvs[i]? = some (k, v) → ∃ n, D[i]? = some (k, n)
  | (a, b) :: kvs, (c, e) :: D, ⟨h1, _, _⟩, 0, k, v, hk => by
    dsimp only at h1; subst h1
    simp only [List.getElem?_cons_zero, Option.some.injEq, Prod.mk.injEq] at hk ⊢
    exact ⟨e, hk.1, rfl⟩
  | _ :: kvs, _ :: D, ⟨_, _, h⟩, i + 1, k, v, hk => by
    simp only [List.getElem?_cons_succ] at hk ⊢
    exact h.item hk
  | [], [], _, _, _, _, hk => by simp at hk
  | [], _ :: _, h, _, _, _, _ => h.elim
  | _ :: _, [], h, _, _, _, _ => h.elim
section
variable {prog : Program} {w : World} {A : Around} {E : Value → Shared → Prop} {h₀ h : Heap} {L : Addr} {m : Str → Option Value} {pre post os : List (Addr × Obj)} {gs : Array GenState} {dr : Drawn} {t : Nat} {o : OsState} {pos : Pos} {env : Env}
variable {k : Str} {i : Int} {u v : Tok} {Q : Value → Shared → Prop} {d : Addr} {ob : Obj} {D : List (Str × Int)}
theorem dictIs {kvs : List (Str × Value)} (S : St h₀ L m os h) (hm : (d, ob) ∈ os) (hd : ob.IsDictOf (SK prog w) kvs) : h.DictOf (SK prog w) d kvs := Heap.dictOf_iff.mpr ⟨ob, S.mem hm, hd⟩
/-- one object of the list takes another make -/
theorem St.same {o' : Obj} {h' : Heap} (S : St h₀ L m (pre ++ (d, ob) :: post) h) (hs : Heap.SameBut d h h') (ho : h'.get? d = some o') : St h₀ L m (pre ++ (d, o') :: post) h' := by
  have D := S.D
  rw [List.map_append, List.map_cons] at D
  have D' := List.nodup_append.mp D
  have md := S.N (d, ob) (by simp)
  have n1 : ∀ p ∈ pre, p.1 ≠ d := fun p hp => D'.2.2 _ (List.mem_map_of_mem hp) _ (List.mem_cons_self ..)
  have n2 : ∀ p ∈ post, p.1 ≠ d := fun p hp q => (List.nodup_cons.mp D'.2.1).1 (List.mem_map.mpr ⟨p, hp, q⟩)
  refine ⟨⟨S.F.ns.sameBut hs (Ne.symm md.2.1), fun b ob e => ?_, S.F.above⟩, fun p hp => ?_, by rw [List.map_append, List.map_cons]; exact D⟩
  · refine (hs.2 b fun q => ?_).trans (S.F.keep b ob e)
    have := md.2.2; rw [← q] at this; dsimp only at this; rw [this] at e; cases e
  · rcases List.mem_append.mp hp with q | q
    · have P := S.N p (List.mem_append_left _ q); exact ⟨(hs.2 _ (n1 p q)).trans P.1, P.2⟩
    · rcases List.mem_cons.mp q with rfl | q
      · exact ⟨ho, md.2⟩
      · have P := S.N p (List.mem_append_right _ (.tail _ q)); exact ⟨(hs.2 _ (n2 p q)).trans P.1, P.2⟩
theorem dGet {value slice : Expr} (S : St h₀ L m os h) (hm : (d, ob) ∈ os) (hd : DOb prog w ob D) (hi : getV D k = some i) (q : ∀ t' u, Q (.int i u) ⟨h, gs, dr, t', o⟩)
    (hs : subscripted slice false (.ref d) (.str k u) = operate [.ref d, .str k u] (getItem (.ref d) (.str k u)) := by with_unfolding_all rfl) :
    wpAny (model prog w) A (subscriptTail value slice (.ref d) (.str k u)) Q E ⟨h, gs, dr, t, o⟩ := by
  obtain ⟨kvs, hk, hv⟩ := hd
  have hdo := dictIs S hm hk
  rcases hv.get k with ⟨i', t', e1, e2⟩ | ⟨e, _⟩
  · rw [hi] at e1; cases e1
    exact tail_any (s := ⟨h, gs, dr, t, o⟩) hdo.typeIs slot_dict_getitem.lookup (wpAny_getItem_of (s := ⟨h, gs, dr, t, o⟩) (strKind_is prog w k u) hdo.mapOf e2 (q _ _)) hs
  · rw [hi] at e; cases e
theorem dGetD (S : St h₀ L m os h) (hm : (d, ob) ∈ os) (hd : DOb prog w ob D) (hsm : (d == sysModules) = false) (q : ∀ t' u, Q (.int ((getV D k).getD i) u) ⟨h, gs, dr, t', o⟩) :
    wpAny (model prog w) A (call (.builtin "dict.get") [.ref d, .str k u, .int i v]) Q E ⟨h, gs, dr, t, o⟩ := by
  obtain ⟨kvs, hk, hv⟩ := hd
  have hdo := dictIs S hm hk
  refine call_meetsIn (s := ⟨h, gs, dr, t, o⟩) F.slot_dict_get hdo.typeIs F.entry_dict_get (F.args_dict_get_3 _ _ _) (meets_dict_get_default (SK prog w) d (strKind_is prog w k u) hsm (.int i v)) ⟨_, hdo.mapOf, ?_⟩
  rcases hv.get k with ⟨i', t', e1, e2⟩ | ⟨e1, e2⟩
  · rw [e2]; rw [e1] at q; exact q _ _
  · rw [e2]; rw [e1] at q; exact q _ _
theorem dGM {pl : Sem Bool} {Q : Value × List Value → Shared → Prop} (S : St h₀ L m os h) (hm : (d, ob) ∈ os) (hd : DOb prog w ob D) (q : Q (.builtin "dict.get", [.ref d]) ⟨h, gs, dr, t, o⟩) :
    wpAny (model prog w) A (getMethod (.ref d) (Str.ofString "get") pl) Q E ⟨h, gs, dr, t, o⟩ := by
  obtain ⟨kvs, hk, hv⟩ := hd
  exact kdg_method (s := ⟨h, gs, dr, t, o⟩) S.N hm hk q
theorem dSet {Q : Unit → Shared → Prop} (S : St h₀ L m (pre ++ (d, ob) :: post) h) (hd : DOb prog w ob D) (hz : D.length ≤ sizeLine) (q : ∀ h' t' ob', DOb prog w ob' (putD D k i) → St h₀ L m (pre ++ (d, ob') :: post) h' → Q () ⟨h', gs, dr, t', o⟩) :
    wpAny (model prog w) A (setItem (.ref d) (.str k u) (.int i v)) Q E ⟨h, gs, dr, t, o⟩ := by
  obtain ⟨kvs, hk, hv⟩ := hd
  have hdo := dictIs (d := d) S (List.mem_append_right _ (.head _)) hk
  refine wpAny_setItem_pairs (s := ⟨h, gs, dr, t, o⟩) (strKind_is prog w k u) hdo (fun h' hm hs => ?_) (by rw [hv.len]; exact hz)
  obtain ⟨ob', ho', hk'⟩ := Heap.dictOf_iff.mp hm
  exact q h' _ ob' ⟨_, hk', hv.put k i v⟩ (S.same hs ho')
theorem dDel {Q : Unit → Shared → Prop} (S : St h₀ L m (pre ++ (d, ob) :: post) h) (hd : DOb prog w ob D) (hz : D.length ≤ sizeLine) (hi : getV D k = some i) (q : ∀ h' t' ob', DOb prog w ob' (delD D k) → St h₀ L m (pre ++ (d, ob') :: post) h' → Q () ⟨h', gs, dr, t', o⟩) :
    wpAny (model prog w) A (delItem (.ref d) (.str k u)) Q E ⟨h, gs, dr, t, o⟩ := by
  obtain ⟨kvs, hk, hv⟩ := hd
  have hdo := dictIs (d := d) S (List.mem_append_right _ (.head _)) hk
  unfold delItem
  try with_reducible refine wpAny_holding ?_
  refine wpAny_bind (wpAny_sequenceKey (s := ⟨h, gs, dr, t, o⟩) hdo.typeIs (by decide) ?_)
  refine wpAny_bind (wpAny_callSpecial?_slot (s := ⟨h, gs, dr, t, o⟩) (name := Str.ofString "__delitem__") hdo.typeIs F.slot_dict_delitem
    (call_meetsIn (s := ⟨h, gs, dr, t, o⟩) F.slot_dict_delitem hdo.typeIs F.entry_dict_delitem (F.args_dict_delitem_2 _ _) (meets_dict_delitem_pairs (SK prog w) d (strKind_is prog w k u)) ⟨kvs, hdo, (by rw [hv.len]; exact hz), ?_, fun h' hmm hs => ?_⟩))
  · rcases hv.get k with ⟨i', t', e1, e2⟩ | ⟨e1, e2⟩
    · rw [e2]; rfl
    · rw [hi] at e1; cases e1
  · obtain ⟨ob', ho', hk'⟩ := Heap.dictOf_iff.mp hmm
    exact wpAny_pure (q h' _ ob' ⟨_, hk', hv.del k⟩ (S.same hs ho'))
theorem dLen (S : St h₀ L m os h) (hm : (d, ob) ∈ os) (hd : DOb prog w ob D) (hsm : (d == sysModules) = false) (hz : D.length ≤ sizeLine) (q : ∀ t' u, Q (.int D.length u) ⟨h, gs, dr, t', o⟩) :
    wpAny (model prog w) A (call (.builtin "len") [.ref d]) Q E ⟨h, gs, dr, t, o⟩ := by
  obtain ⟨kvs, hk, hv⟩ := hd
  refine call_len_dict (s := ⟨h, gs, dr, t, o⟩) hsm (dictIs S hm hk) (by rw [hv.len]; rw [sizeLine_eq] at hz; omega) ?_
  rw [hv.len]; exact q _ _
theorem dNew (C : Cx w h₀) (S : St h₀ L m os h) (q : ∀ h' d ob, DOb prog w ob [] → (d == sysModules) = false → St h₀ L m ((d, ob) :: os) h' → Q (.ref d) ⟨h', gs, dr, t, o⟩) :
    wpAny (model prog w) A (eval (.Dict [] [] pos) env) Q E ⟨h, gs, dr, t, o⟩ := by
  refine wpAny_Dict_empty (s := ⟨h, gs, dr, t, o⟩) (q _ _ { cls := .type "dict", data := .dict #[] } ?_ ?_ (S.push _))
  · obtain ⟨o', ho', hk'⟩ := Heap.dictOf_iff.mp (Heap.DictOf.new (knd := SK prog w) h)
    rw [Heap.get?_push_size _ rfl] at ho'
    cases ho'
    exact ⟨[], hk', trivial⟩
  · obtain ⟨mg, hg⟩ := C.g
    have : mainGlobals < h.objs.size := (hg.keeps S.F.keep).lt
    have h1 : (1 : Nat) < mainGlobals := by decide
    show (h.objs.size == sysModules) = false
    have hne : h.objs.size ≠ sysModules := fun e => by rw [e] at this; exact absurd this (by decide)
    simpa using hne
theorem dNe {e : Addr} {ob' : Obj} (S : St h₀ L m os h) (hm : (d, ob) ∈ os) (hd : DOb prog w ob D) (hm' : (e, ob') ∈ os) (hd' : DOb prog w ob' []) (hsm : (d == sysModules) = false) (hsm' : (e == sysModules) = false) (hu : A.units < cLine)
    (q : Q (.bool (!D.isEmpty)) ⟨h, gs, dr, t, o⟩) : wpAny (model prog w) A (compareOp .NotEq (.ref d) (.ref e)) Q E ⟨h, gs, dr, t, o⟩ := by
  obtain ⟨kvs, hk, hv⟩ := hd
  obtain ⟨kvs', hk', hv'⟩ := hd'
  have e' : kvs' = [] := by have := hv'.len; simpa using this
  subst e'
  refine keq_ne (s := ⟨h, gs, dr, t, o⟩) (r := true) hsm hsm' (dictIs S hm hk) (dictIs S hm' hk') hu (fun l => ?_) ?_
  · have : kvs = [] := by simpa using l
    subst this; exact .nil
  · have : (!(kvs.length == ([] : List (Str × Value)).length && true)) = !D.isEmpty := by
      rw [hv.len]; cases D <;> simp
    rw [this]; exact q
end
local macro_rules | `(tactic| walk_at "subl") => `(tactic| first | exact List.Sublist.refl _ | exact List.nil_sublist _ | (refine List.Sublist.cons_cons _ ?_; walk_at "subl") | (refine List.Sublist.cons _ ?_; walk_at "subl"))
local macro_rules | `(tactic| walk_at "mem") => `(tactic| first | exact List.Mem.head _ | (refine List.Mem.tail _ ?_; walk_at "mem"))
local macro_rules | `(tactic| walk_at "sz") => `(tactic| first | with_reducible assumption | (rw [sizeLine_eq]; decide) | (rw [sizeLine_eq]; simp; done) | (rw [sizeLine_eq] at *; omega) | (rw [sizeLine_eq]; simp; omega))
local macro_rules | `(tactic| walk_at "look") => `(tactic| first | with_reducible assumption | exact rfl | exact if_pos rfl | (refine (if_neg (by decide)).trans ?_; walk_at "look"))
section
variable {prog : Program} {w : World} {A : Around} {E : Value → Shared → Prop} {s : Shared}
theorem coll_spec {a b : Str} {ta tb : Tok} {Q : Value → Shared → Prop} (C : Cx w s.heap) (hroom : A.depth < recursionLimit)
   (q : ∀ h' t' tk, s.heap.StaysIn h' → Q (.int (b2i (decide (b.cps.toList < a.cps.toList)) - b2i (decide (a.cps.toList < b.cps.toList))) tk) ⟨h', s.gens, s.drawn, t', s.os⟩) :
   wpAny (model prog w) A (call (.ref 101) [.str a ta, .str b tb]) Q E s := by
  refine call_fn (binds := [(Str.ofString "a", .str a ta), (Str.ofString "b", .str b tb)]) C rfl rfl hroom rfl rfl (fun h₁ t S => ?_)
  with_reducible refine wpAny_execs_cons ?_
  with_reducible refine wpAny_Return_some ?_
  with_reducible refine wpAny_BinOp ?_
  (with_reducible refine wpAny_Compare1 ?_ ?ka); (case ka => with_unfolding_all rfl)
  (with_reducible refine' rd ?ka ?kb ?_ ?kc ?kd ?ke); (case ka => with_reducible assumption); (case kb => walk_at "look"); (case kc => rfl); (case kd => rfl); (case ke => decide)
  (with_reducible refine' rd ?ka ?kb ?_ ?kc ?kd ?ke); (case ka => with_reducible assumption); (case kb => walk_at "look"); (case kc => rfl); (case kd => rfl); (case ke => decide)
  with_reducible refine gtS ?_
  (with_reducible refine wpAny_Compare1 ?_ ?ka); (case ka => with_unfolding_all rfl)
  (with_reducible refine' rd ?ka ?kb ?_ ?kc ?kd ?ke); (case ka => with_reducible assumption); (case kb => walk_at "look"); (case kc => rfl); (case kd => rfl); (case ke => decide)
  (with_reducible refine' rd ?ka ?kb ?_ ?kc ?kd ?ke); (case ka => with_reducible assumption); (case kb => walk_at "look"); (case kc => rfl); (case kd => rfl); (case ke => decide)
  with_reducible refine ltS ?_
  (with_reducible refine subB ?_); intro _ _
  exact q _ _ _ S.F.keep
end
/-- the first loop of _strip_padding -/
noncomputable def padL (s : Str) : Nat → Int → Int → Option (Int × Int)
  | 0, _, _ => none
  | n + 1, l, a => if a != 0 then (if 0 ≤ l ∧ l < s.length then (if (Txt.item s l == Str.ofString " ") = true then padL s n (l + 1) (a - 1) else some (l, a)) else none) else some (l, a)
noncomputable def padR (s : Str) : Nat → Int → Int → Option (Int × Int)
  | 0, _, _ => none
  | n + 1, l, a => if a != 0 then (if 0 ≤ l ∧ l < s.length then (if (Txt.item s l == Str.ofString " ") = true then padR s n (l - 1) (a - 1) else some (l, a)) else none) else some (l, a)
noncomputable def stripM (s : Str) (amount : Int) : Option Str :=
  if 100 < s.length then none else
    match padL s 100 0 amount with
    | none => none
    | some (l, a) => match padR s 100 (s.length - 1) a with
      | none => none
      | some (r, _) => some (Txt.slice s (some l) (some (r + 1)))
section
variable {prog : Program} {w : World} {A : Around} {E : Value → Shared → Prop} {s : Shared}
theorem strip_spec {x r : Str} {tx ta : Tok} {am : Int} {Q : Value → Shared → Prop} (C : Cx w s.heap) (hroom : A.depth < recursionLimit) (hr : stripM x am = some r)
   (q : ∀ h' t' tk, s.heap.StaysIn h' → Q (.str r tk) ⟨h', s.gens, s.drawn, t', s.os⟩) :
   wpAny (model prog w) A (call (.ref 108) [.str x tx, .int am ta]) Q E s := by
  unfold stripM at hr
  split at hr
  · cases hr
  next hx =>
  have hx' : x.length ≤ sizeLine := by rw [sizeLine_eq]; omega
  split at hr
  · cases hr
  next l a el =>
  split at hr
  · cases hr
  next rr a' er =>
  cases hr
  refine call_fn (binds := [(Str.ofString "s", .str x tx), (Str.ofString "amount", .int am ta)]) C rfl rfl hroom rfl rfl (fun h₁ t S => ?_)
  with_reducible refine wpAny_execs_cons ?_
  (with_reducible refine wpAny_Assign_Name ?_ ?ka); (case ka => rfl)
  (with_reducible refine cInt ?_); intro _ _
  (with_reducible refine' sto ?ka ?_ ?kb ?kc); (case ka => with_reducible assumption); (case kb => rfl); (case kc => rfl); intro _ _ _
  obtain ⟨I1, hI1⟩ : ∃ I : Nat → Shared → Prop, I = fun n s' => ∃ l' a' h t tl ta m, s' = ⟨h, s.gens, s.drawn, t, s.os⟩ ∧ St s.heap s.heap.objs.size m [] h ∧ padL x n l' a' = some (l, a) ∧ m (Str.ofString "lpos") = some (.int l' tl) ∧ m (Str.ofString "amount") = some (.int a' ta) ∧ m (Str.ofString "s") = some (.str x tx) := ⟨_, rfl⟩
  obtain ⟨X1, hX1⟩ : ∃ X : Shared → Prop, X = fun s' => ∃ h t tl ta m, s' = ⟨h, s.gens, s.drawn, t, s.os⟩ ∧ St s.heap s.heap.objs.size m [] h ∧ m (Str.ofString "lpos") = some (.int l tl) ∧ m (Str.ofString "amount") = some (.int a ta) ∧ m (Str.ofString "s") = some (.str x tx) := ⟨_, rfl⟩
  with_reducible refine while_seq I1 X1 ?_ 100 (by rw [hI1]; exact ⟨_, _, _, _, _, _, _, rfl, by assumption, el, rfl, rfl, rfl⟩) ?_
  · intro n s' hi
    rw [hI1] at hi
    obtain ⟨l', a', h, t, tl, ta, m, rfl, S, e, m1, m2, m3⟩ := hi
    cases n with
    | zero => cases e
    | succ n =>
    unfold padL at e
    with_reducible refine isTrue_and ?_
    (with_reducible refine isTrue_plain ?_ ?ka); (case ka => rfl)
    (with_reducible refine' rd ?ka ?kb ?_ ?kc ?kd ?ke); (case ka => with_reducible assumption); (case kb => walk_at "look"); (case kc => rfl); (case kd => rfl); (case ke => decide)
    with_reducible refine trI ?_
    by_cases ha : (a' != 0) = true
    · rw [if_pos ha] at e ⊢
      by_cases hb : 0 ≤ l' ∧ l' < x.length
      · rw [if_pos hb] at e
        with_reducible refine isTrue_and ?_
        (with_reducible refine wpAny_isTrue_Compare1 ?_ ?ka); (case ka => with_unfolding_all rfl)
        with_reducible refine Subscript_ ?_
        (with_reducible refine' rd ?ka ?kb ?_ ?kc ?kd ?ke); (case ka => with_reducible assumption); (case kb => walk_at "look"); (case kc => rfl); (case kd => rfl); (case ke => decide)
        (with_reducible refine' rd ?ka ?kb ?_ ?kc ?kd ?ke); (case ka => with_reducible assumption); (case kb => walk_at "look"); (case kc => rfl); (case kd => rfl); (case ke => decide)
        refine itemS hb.1 hb.2 hx' (fun t u => ?_)
        (with_reducible refine cStr ?_); intro _ _
        with_reducible refine eqS ?_
        with_reducible refine trB ?_
        by_cases hc : (Txt.item x l' == Str.ofString " ") = true
        · rw [if_pos hc] at e ⊢
          with_reducible refine isTrue_and_nil ?_
          with_reducible refine itT ?_
          with_reducible refine wpAny_execs_cons ?_
          with_reducible refine wpAny_AugAssign_Name ?_
          (with_reducible refine' rdn ?ka ?kb ?_ ?kc ?kd); (case ka => with_reducible assumption); (case kb => walk_at "look"); (case kc => rfl); (case kd => rfl)
          (with_reducible refine cInt ?_); intro _ _
          (with_reducible refine iaddI ?_); intro _ _
          (with_reducible refine' sto ?ka ?_ ?kb ?kc); (case ka => with_reducible assumption); (case kb => rfl); (case kc => rfl); intro _ _ _
          with_reducible refine wpAny_execs_cons ?_
          with_reducible refine wpAny_AugAssign_Name ?_
          (with_reducible refine' rdn ?ka ?kb ?_ ?kc ?kd); (case ka => with_reducible assumption); (case kb => walk_at "look"); (case kc => rfl); (case kd => rfl)
          (with_reducible refine cInt ?_); intro _ _
          (with_reducible refine isubI ?_); intro _ _
          (with_reducible refine' sto ?ka ?_ ?kb ?kc); (case ka => with_reducible assumption); (case kb => rfl); (case kc => rfl); intro _ _ _
          with_reducible refine wpAny_execs_nil ?_
          rw [hI1]
          exact ⟨n, Nat.lt_succ_self _, _, _, _, _, _, _, _, rfl, by assumption, e, by walk_at "look", by walk_at "look", by walk_at "look"⟩
        · rw [if_neg hc] at e ⊢
          cases e
          rw [hX1]
          exact ⟨_, _, _, _, _, rfl, S, m1, m2, m3⟩
      · rw [if_neg hb] at e; cases e
    · rw [if_neg ha] at e ⊢
      cases e
      rw [hX1]
      exact ⟨_, _, _, _, _, rfl, S, m1, m2, m3⟩
  intro s' hx1
  rw [hX1] at hx1
  obtain ⟨h, t, tl, ta, m, rfl, S, m1, m2, m3⟩ := hx1
  with_reducible refine wpAny_execs_cons ?_
  (with_reducible refine wpAny_Assign_Name ?_ ?ka); (case ka => rfl)
  with_reducible refine wpAny_BinOp ?_
  (with_reducible refine Call_ ?_ ?ka); (case ka => rfl)
  (with_reducible refine' rdB ?ka ?kb ?kc ?kd ?_ ?ke ?kf ?kg ?kh); (case ka => with_reducible assumption); (case kb => with_reducible assumption); (case kc => first | with_reducible exact gb0 _ | with_reducible exact gb1 _ | with_reducible exact gb2 _ | with_reducible exact gb3 _ | with_reducible exact gb4 _); (case kd => first | exact boot_len | exact boot_range | exact boot_enumerate | exact boot_tuple | exact boot_sum); (case ke => decide); (case kf => rfl); (case kg => rfl); (case kh => decide)
  (with_reducible refine callWith_builtin1 ?_ ?ka ?kb); (case ka => rfl); (case kb => rfl)
  (with_reducible refine spliced_more ?_ ?ka); (case ka => rfl)
  (with_reducible refine' rd ?ka ?kb ?_ ?kc ?kd ?ke); (case ka => with_reducible assumption); (case kb => walk_at "look"); (case kc => rfl); (case kd => rfl); (case ke => decide)
  with_reducible refine spliced_none ?_
  (with_reducible refine lenS ?ka ?_); (case ka => with_reducible assumption); intro _ _
  (with_reducible refine cInt ?_); intro _ _
  (with_reducible refine subI ?_); intro _ _
  (with_reducible refine' sto ?ka ?_ ?kb ?kc); (case ka => with_reducible assumption); (case kb => rfl); (case kc => rfl); intro _ _ _
  obtain ⟨I2, hI2⟩ : ∃ I : Nat → Shared → Prop, I = fun n s' => ∃ l' a'' h t tl tl' ta m, s' = ⟨h, s.gens, s.drawn, t, s.os⟩ ∧ St s.heap s.heap.objs.size m [] h ∧ padR x n l' a'' = some (rr, a') ∧ m (Str.ofString "rpos") = some (.int l' tl) ∧ m (Str.ofString "amount") = some (.int a'' ta) ∧ m (Str.ofString "s") = some (.str x tx) ∧ m (Str.ofString "lpos") = some (.int l tl') := ⟨_, rfl⟩
  obtain ⟨X2, hX2⟩ : ∃ X : Shared → Prop, X = fun s' => ∃ h t tl tl' ta m, s' = ⟨h, s.gens, s.drawn, t, s.os⟩ ∧ St s.heap s.heap.objs.size m [] h ∧ m (Str.ofString "rpos") = some (.int rr tl) ∧ m (Str.ofString "amount") = some (.int a' ta) ∧ m (Str.ofString "s") = some (.str x tx) ∧ m (Str.ofString "lpos") = some (.int l tl') := ⟨_, rfl⟩
  with_reducible refine while_seq I2 X2 ?_ 100 (by rw [hI2]; exact ⟨_, _, _, _, _, _, _, _, rfl, by assumption, er, by walk_at "look", by walk_at "look", by walk_at "look", by walk_at "look"⟩) ?_
  · intro n s' hi
    rw [hI2] at hi
    obtain ⟨l', a', h, t, tl, tl', ta, m, rfl, S, e, m1, m2, m3, m4⟩ := hi
    cases n with
    | zero => cases e
    | succ n =>
    unfold padR at e
    with_reducible refine isTrue_and ?_
    (with_reducible refine isTrue_plain ?_ ?ka); (case ka => rfl)
    (with_reducible refine' rd ?ka ?kb ?_ ?kc ?kd ?ke); (case ka => with_reducible assumption); (case kb => walk_at "look"); (case kc => rfl); (case kd => rfl); (case ke => decide)
    with_reducible refine trI ?_
    by_cases ha : (a' != 0) = true
    · rw [if_pos ha] at e ⊢
      by_cases hb : 0 ≤ l' ∧ l' < x.length
      · rw [if_pos hb] at e
        with_reducible refine isTrue_and ?_
        (with_reducible refine wpAny_isTrue_Compare1 ?_ ?ka); (case ka => with_unfolding_all rfl)
        with_reducible refine Subscript_ ?_
        (with_reducible refine' rd ?ka ?kb ?_ ?kc ?kd ?ke); (case ka => with_reducible assumption); (case kb => walk_at "look"); (case kc => rfl); (case kd => rfl); (case ke => decide)
        (with_reducible refine' rd ?ka ?kb ?_ ?kc ?kd ?ke); (case ka => with_reducible assumption); (case kb => walk_at "look"); (case kc => rfl); (case kd => rfl); (case ke => decide)
        refine itemS hb.1 hb.2 hx' (fun t u => ?_)
        (with_reducible refine cStr ?_); intro _ _
        with_reducible refine eqS ?_
        with_reducible refine trB ?_
        by_cases hc : (Txt.item x l' == Str.ofString " ") = true
        · rw [if_pos hc] at e ⊢
          with_reducible refine isTrue_and_nil ?_
          with_reducible refine itT ?_
          with_reducible refine wpAny_execs_cons ?_
          with_reducible refine wpAny_AugAssign_Name ?_
          (with_reducible refine' rdn ?ka ?kb ?_ ?kc ?kd); (case ka => with_reducible assumption); (case kb => walk_at "look"); (case kc => rfl); (case kd => rfl)
          (with_reducible refine cInt ?_); intro _ _
          (with_reducible refine isubI ?_); intro _ _
          (with_reducible refine' sto ?ka ?_ ?kb ?kc); (case ka => with_reducible assumption); (case kb => rfl); (case kc => rfl); intro _ _ _
          with_reducible refine wpAny_execs_cons ?_
          with_reducible refine wpAny_AugAssign_Name ?_
          (with_reducible refine' rdn ?ka ?kb ?_ ?kc ?kd); (case ka => with_reducible assumption); (case kb => walk_at "look"); (case kc => rfl); (case kd => rfl)
          (with_reducible refine cInt ?_); intro _ _
          (with_reducible refine isubI ?_); intro _ _
          (with_reducible refine' sto ?ka ?_ ?kb ?kc); (case ka => with_reducible assumption); (case kb => rfl); (case kc => rfl); intro _ _ _
          with_reducible refine wpAny_execs_nil ?_
          rw [hI2]
          exact ⟨n, Nat.lt_succ_self _, _, _, _, _, _, _, _, _, rfl, by assumption, e, by walk_at "look", by walk_at "look", by walk_at "look", by walk_at "look"⟩
        · rw [if_neg hc] at e ⊢
          cases e
          rw [hX2]
          exact ⟨_, _, _, _, _, _, rfl, S, m1, m2, m3, m4⟩
      · rw [if_neg hb] at e; cases e
    · rw [if_neg ha] at e ⊢
      cases e
      rw [hX2]
      exact ⟨_, _, _, _, _, _, rfl, S, m1, m2, m3, m4⟩
  intro s' hx2
  rw [hX2] at hx2
  obtain ⟨h, t, tl, tl', ta, m, rfl, S, m1, m2, m3, m4⟩ := hx2
  with_reducible refine wpAny_execs_cons ?_
  with_reducible refine wpAny_Return_some ?_
  with_reducible refine Subscript_ ?_
  (with_reducible refine' rd ?ka ?kb ?_ ?kc ?kd ?ke); (case ka => with_reducible assumption); (case kb => walk_at "look"); (case kc => rfl); (case kd => rfl); (case ke => decide)
  with_reducible refine wpAny_Slice ?_
  with_reducible refine evalPart_some_step ?_
  (with_reducible refine' rd ?ka ?kb ?_ ?kc ?kd ?ke); (case ka => with_reducible assumption); (case kb => walk_at "look"); (case kc => rfl); (case kd => rfl); (case ke => decide)
  with_reducible refine evalPart_some_step ?_
  with_reducible refine wpAny_BinOp ?_
  (with_reducible refine' rd ?ka ?kb ?_ ?kc ?kd ?ke); (case ka => with_reducible assumption); (case kb => walk_at "look"); (case kc => rfl); (case kd => rfl); (case ke => decide)
  (with_reducible refine cInt ?_); intro _ _
  (with_reducible refine addI ?_); intro _ _
  with_reducible refine evalPart_none_step ?_
  (with_reducible refine' sliceSS ?ka ?kb ?_ ?kc ?kd); (case ka => with_reducible assumption); (case kb => walk_at "sz"); (case kc => with_unfolding_all rfl); (case kd => intro _; with_unfolding_all rfl); intro _ _ _ _
  exact q _ _ _ (St.F (by assumption)).keep
end
noncomputable def ellGo (g : Str) : List Str → Int → Bool
  | [], _ => true
  | w :: ws, p => if find4 g w p g.length < 0 then false else ellGo g ws (find4 g w p g.length + w.length)
noncomputable def ellWs : List Str := [Str.ofString "", Str.ofString "\t", Str.ofString " ", Str.ofString ""]
noncomputable def ellM (g : Str) : Bool := ellGo g ellWs 0
theorem ell_split : Txt.split (Str.ofString "...\t... ...") (Str.ofString "...") = ellWs := by decide +kernel
theorem ell_in : Txt.contains (Str.ofString "...\t... ...") (Str.ofString "...") = true := by decide +kernel
noncomputable def strsV (l : List (Str × Tok)) : List Value := l.map fun p => .str p.1 p.2
section
variable {prog : Program} {w : World} {A : Around} {E : Value → Shared → Prop} {s : Shared}
theorem ell_splitS {h₀ h : Heap} {L : Addr} {m : Str → Option Value} {os : List (Addr × Obj)} {gs : Array GenState} {dr : Drawn} {t : Nat} {o : OsState} {u v : Tok} {Q : Value → Shared → Prop} (S : St h₀ L m os h)
    (q : ∀ a l h' t', l.map Prod.fst = ellWs → St h₀ L m ((a, lob (strsV l) 0) :: os) h' → Q (.ref a) ⟨h', gs, dr, t', o⟩) :
    wpAny (model prog w) A (call (.builtin "str.split") [.str (Str.ofString "...\t... ...") u, .str (Str.ofString "...") v]) Q E ⟨h, gs, dr, t, o⟩ := by
  refine splitN1 (s := ⟨h, gs, dr, t, o⟩) S.F S.N (by decide +kernel) (fun l h' t' el F N => ?_) (by rw [sizeLine_eq]; decide +kernel)
  rw [ell_split] at el
  exact q _ l _ _ el ⟨F, N, (S.push _).D⟩
theorem ell_spec {g : Str} {tw tg : Tok} {Q : Value → Shared → Prop} (C : Cx w s.heap) (hroom : A.depth < recursionLimit) (hh : A.handled = none) (hg : g.length ≤ sizeLine)
   (q : ∀ h' t', s.heap.StaysIn h' → Q (.bool (ellM g)) ⟨h', s.gens, s.drawn, t', s.os⟩) :
   wpAny (model prog w) A (call (.ref 94) [.str (Str.ofString "...\t... ...") tw, .str g tg]) Q E s := by
  refine call_fn (binds := [(Str.ofString "want", .str (Str.ofString "...\t... ...") tw), (Str.ofString "got", .str g tg)]) C rfl rfl hroom rfl rfl (fun h₁ t S => ?_)
  with_reducible refine wpAny_execs_cons ?_
  with_reducible refine wpAny_If ?_
  (with_reducible refine wpAny_isTrue_Compare1 ?_ ?ka); (case ka => with_unfolding_all rfl)
  (with_reducible refine' rdG ?ka ?kb ?kc ?_ ?kd ?ke ?kf); (case ka => with_reducible assumption); (case kb => with_reducible assumption); (case kc => first | with_reducible exact gl0 _ | with_reducible exact gl1 _ | with_reducible exact gl2 _ | with_reducible exact gl3 _ | with_reducible exact gl4 _ | with_reducible exact gl5 _ | with_reducible exact gl6 _ | with_reducible exact gl7 _ | with_reducible exact gl8 _ | with_reducible exact gl9 _); (case kd => rfl); (case ke => rfl); (case kf => decide)
  (with_reducible refine' rd ?ka ?kb ?_ ?kc ?kd ?ke); (case ka => with_reducible assumption); (case kb => walk_at "look"); (case kc => rfl); (case kd => rfl); (case ke => decide)
  with_reducible refine notInS ?_
  with_reducible refine trB ?_
  rw [ell_in]
  rw [if_neg (by decide)]
  with_reducible refine wpAny_execs_nil ?_
  with_reducible refine wpAny_execs_cons ?_
  (with_reducible refine wpAny_Assign_Name ?_ ?ka); (case ka => rfl)
  (with_reducible refine' MethodCall_ ?_ ?ka); (case ka => rfl)
  (with_reducible refine' rd ?ka ?kb ?_ ?kc ?kd ?ke); (case ka => with_reducible assumption); (case kb => walk_at "look"); (case kc => rfl); (case kd => rfl); (case ke => decide)
  with_reducible refine GM.split ?_
  (with_reducible refine cwm ?_ ?ka ?kb); (case ka => rfl); (case kb => rfl)
  (with_reducible refine spliced_more ?_ ?ka); (case ka => rfl)
  (with_reducible refine' rdG ?ka ?kb ?kc ?_ ?kd ?ke ?kf); (case ka => with_reducible assumption); (case kb => with_reducible assumption); (case kc => first | with_reducible exact gl0 _ | with_reducible exact gl1 _ | with_reducible exact gl2 _ | with_reducible exact gl3 _ | with_reducible exact gl4 _ | with_reducible exact gl5 _ | with_reducible exact gl6 _ | with_reducible exact gl7 _ | with_reducible exact gl8 _ | with_reducible exact gl9 _); (case kd => rfl); (case ke => rfl); (case kf => decide)
  with_reducible refine spliced_none ?_
  refine ell_splitS S (fun D l h₂ t₂ el S₂ => ?_)
  have hl4 : (strsV l).length = 4 := by
    have := congrArg List.length el
    simpa [ellWs, strsV] using this
  have hz : (strsV l).length ≤ sizeLine := by rw [hl4, sizeLine_eq]; decide
  have at_ : ∀ i w, ellWs[i]? = some w → ∃ tk, (strsV l)[i]? = some (Value.str w tk) := fun i w e => by
    rw [← el, List.getElem?_map] at e
    cases e' : l[i]? with
    | none => rw [e'] at e; cases e
    | some p => rw [e'] at e; cases e; exact ⟨p.2, by unfold strsV; rw [List.getElem?_map, e']; rfl⟩
  (with_reducible refine' sto ?ka ?_ ?kb ?kc); (case ka => with_reducible assumption); (case kb => rfl); (case kc => rfl); intro _ _ _
  with_reducible refine wpAny_execs_cons ?_
  with_reducible refine wpAny_Assert_holds ?_
  (with_reducible refine wpAny_isTrue_Compare1 ?_ ?ka); (case ka => with_unfolding_all rfl)
  (with_reducible refine Call_ ?_ ?ka); (case ka => rfl)
  (with_reducible refine' rdB ?ka ?kb ?kc ?kd ?_ ?ke ?kf ?kg ?kh); (case ka => with_reducible assumption); (case kb => with_reducible assumption); (case kc => first | with_reducible exact gb0 _ | with_reducible exact gb1 _ | with_reducible exact gb2 _ | with_reducible exact gb3 _ | with_reducible exact gb4 _); (case kd => first | exact boot_len | exact boot_range | exact boot_enumerate | exact boot_tuple | exact boot_sum); (case ke => decide); (case kf => rfl); (case kg => rfl); (case kh => decide)
  (with_reducible refine callWith_builtin1 ?_ ?ka ?kb); (case ka => rfl); (case kb => rfl)
  (with_reducible refine spliced_more ?_ ?ka); (case ka => rfl)
  (with_reducible refine' rd ?ka ?kb ?_ ?kc ?kd ?ke); (case ka => with_reducible assumption); (case kb => walk_at "look"); (case kc => rfl); (case kd => rfl); (case ke => decide)
  with_reducible refine spliced_none ?_
  (with_reducible refine' lenL ?ka ?kb ?kc ?_); (case ka => with_reducible assumption); (case kb => walk_at "mem"); (case kc => walk_at "sz"); intro _ _
  (with_reducible refine cInt ?_); intro _ _
  with_reducible refine geI ?_
  with_reducible refine trB ?_
  rw [hl4]
  refine ⟨by decide, ?_⟩
  with_reducible refine wpAny_execs_cons ?_
  (with_reducible refine' Assign_Tuple_swapped ?_ ?ka ?kb); (case ka => exact rfl); (case kb => exact rfl)
  with_reducible refine Tuple_ ?_
  (with_reducible refine spliced_more ?_ ?ka); (case ka => rfl)
  (with_reducible refine cInt ?_); intro _ _
  (with_reducible refine spliced_more ?_ ?ka); (case ka => rfl)
  (with_reducible refine Call_ ?_ ?ka); (case ka => rfl)
  (with_reducible refine' rdB ?ka ?kb ?kc ?kd ?_ ?ke ?kf ?kg ?kh); (case ka => with_reducible assumption); (case kb => with_reducible assumption); (case kc => first | with_reducible exact gb0 _ | with_reducible exact gb1 _ | with_reducible exact gb2 _ | with_reducible exact gb3 _ | with_reducible exact gb4 _); (case kd => first | exact boot_len | exact boot_range | exact boot_enumerate | exact boot_tuple | exact boot_sum); (case ke => decide); (case kf => rfl); (case kg => rfl); (case kh => decide)
  (with_reducible refine callWith_builtin1 ?_ ?ka ?kb); (case ka => rfl); (case kb => rfl)
  (with_reducible refine spliced_more ?_ ?ka); (case ka => rfl)
  (with_reducible refine' rd ?ka ?kb ?_ ?kc ?kd ?ke); (case ka => with_reducible assumption); (case kb => walk_at "look"); (case kc => rfl); (case kd => rfl); (case ke => decide)
  with_reducible refine spliced_none ?_
  (with_reducible refine lenS ?ka ?_); (case ka => with_reducible assumption); intro _ _
  with_reducible refine spliced_none ?_
  (with_reducible refine' newT ?ka ?_ ?kb); (case ka => with_reducible assumption); (case kb => walk_at "sz"); intro _ _ _ _
  (with_reducible refine' unpT ?ka ?kb ?kc ?kd ?_); (case ka => with_reducible assumption); (case kb => walk_at "mem"); (case kc => assumption); (case kd => exact rfl); intro _ _
  refine asg2 (n1 := Str.ofString "startpos") (n2 := Str.ofString "endpos") ?_
  (with_reducible refine' sto ?ka ?_ ?kb ?kc); (case ka => with_reducible assumption); (case kb => rfl); (case kc => rfl); intro _ _ _
  (with_reducible refine' sto ?ka ?_ ?kb ?kc); (case ka => with_reducible assumption); (case kb => rfl); (case kc => rfl); intro _ _ _
  with_reducible refine wpAny_execs_cons ?_
  (with_reducible refine wpAny_Assign_Name ?_ ?ka); (case ka => rfl)
  with_reducible refine Subscript_ ?_
  (with_reducible refine' rd ?ka ?kb ?_ ?kc ?kd ?ke); (case ka => with_reducible assumption); (case kb => walk_at "look"); (case kc => rfl); (case kd => rfl); (case ke => decide)
  (with_reducible refine cInt ?_); intro _ _
  obtain ⟨k0, e0⟩ := at_ 0 (Str.ofString "") rfl
  obtain ⟨k3, e3⟩ := at_ 3 (Str.ofString "") rfl
  refine' itemL ?S ?hm (by decide) hz e0 ?_
  case S => with_reducible assumption
  case hm => walk_at "mem"
  (with_reducible refine' sto ?ka ?_ ?kb ?kc); (case ka => with_reducible assumption); (case kb => rfl); (case kc => rfl); intro _ _ _
  with_reducible refine wpAny_execs_cons ?_
  with_reducible refine wpAny_If ?_
  (with_reducible refine isTrue_plain ?_ ?ka); (case ka => rfl)
  (with_reducible refine' rd ?ka ?kb ?_ ?kc ?kd ?ke); (case ka => with_reducible assumption); (case kb => walk_at "look"); (case kc => rfl); (case kd => rfl); (case ke => decide)
  (with_reducible refine trS ?ka ?_); (case ka => walk_at "sz"); intro _
  rw [if_neg (by decide)]
  with_reducible refine wpAny_execs_nil ?_
  with_reducible refine wpAny_execs_cons ?_
  (with_reducible refine wpAny_Assign_Name ?_ ?ka); (case ka => rfl)
  with_reducible refine Subscript_ ?_
  (with_reducible refine' rd ?ka ?kb ?_ ?kc ?kd ?ke); (case ka => with_reducible assumption); (case kb => walk_at "look"); (case kc => rfl); (case kd => rfl); (case ke => decide)
  with_reducible refine wpAny_UnaryOp ?_
  (with_reducible refine cInt ?_); intro _ _
  (with_reducible refine negI ?_); intro _ _
  refine' itemLn ?S ?hm (by decide) (by rw [hl4]; decide) hz (by rw [hl4]; exact e3) ?_
  case S => with_reducible assumption
  case hm => walk_at "mem"
  (with_reducible refine' sto ?ka ?_ ?kb ?kc); (case ka => with_reducible assumption); (case kb => rfl); (case kc => rfl); intro _ _ _
  with_reducible refine wpAny_execs_cons ?_
  with_reducible refine wpAny_If ?_
  (with_reducible refine isTrue_plain ?_ ?ka); (case ka => rfl)
  (with_reducible refine' rd ?ka ?kb ?_ ?kc ?kd ?ke); (case ka => with_reducible assumption); (case kb => walk_at "look"); (case kc => rfl); (case kd => rfl); (case ke => decide)
  (with_reducible refine trS ?ka ?_); (case ka => walk_at "sz"); intro _
  rw [if_neg (by decide)]
  with_reducible refine wpAny_execs_nil ?_
  with_reducible refine wpAny_execs_cons ?_
  with_reducible refine wpAny_If ?_
  (with_reducible refine wpAny_isTrue_Compare1 ?_ ?ka); (case ka => with_unfolding_all rfl)
  (with_reducible refine' rd ?ka ?kb ?_ ?kc ?kd ?ke); (case ka => with_reducible assumption); (case kb => walk_at "look"); (case kc => rfl); (case kd => rfl); (case ke => decide)
  (with_reducible refine' rd ?ka ?kb ?_ ?kc ?kd ?ke); (case ka => with_reducible assumption); (case kb => walk_at "look"); (case kc => rfl); (case kd => rfl); (case ke => decide)
  with_reducible refine gtI ?_
  with_reducible refine trB ?_
  rw [if_neg (by simp; done)]
  with_reducible refine wpAny_execs_nil ?_
  with_reducible refine wpAny_execs_cons ?_
  (with_reducible refine' wpAny_For ?_ ?ka); (case ka => intro _; rfl)
  (with_reducible refine' rd ?ka ?kb ?_ ?kc ?kd ?ke); (case ka => with_reducible assumption); (case kb => walk_at "look"); (case kc => rfl); (case kd => rfl); (case ke => decide)
  (with_reducible refine' itL ?ka ?kb ?_); (case ka => with_reducible assumption); (case kb => walk_at "mem"); intro _ _ _ _ _ _
  rename_i I oI h₅ S₅ wt ne
  refine for_loop (con := [_, (D, lob (strsV l) 0)]) (os := []) (Walks.list (by exact hh) I D ne (strsV l).toArray) (fun i h wt => let ⟨o, ho, _⟩ := wt.1; ⟨o, ho⟩) ?_
    (fun i m os => os = [] ∧ ∃ p tp te, m (Str.ofString "startpos") = some (.int p tp) ∧ m (Str.ofString "endpos") = some (.int g.length te) ∧ m (Str.ofString "got") = some (.str g tg) ∧ ellGo g (ellWs.drop i) p = ellM g)
    ?_ ?_ S₅ wt ⟨rfl, _, _, _, rfl, rfl, rfl, rfl⟩
  · intro b hb
    rcases List.mem_cons.mp hb with rfl | hb
    · exact .inl rfl
    · rw [List.mem_singleton.mp hb]; exact .inr (.inr (by simp))
  · rintro i m os v oI h t hi pv ⟨rfl, p, tp, te, m1, m2, m3, ej⟩ S
    have hi4 : i < 4 := by rw [← hl4]; simpa using hi
    have hw : ∃ w, ellWs[i]? = some w := ⟨_, List.getElem?_eq_getElem (l := ellWs) (by exact hi4)⟩
    obtain ⟨w, hw⟩ := hw
    obtain ⟨tk, hv⟩ := at_ i w hw
    have : v = .str w tk := by
      have pv' : (strsV l)[i]? = some v := by simpa using pv
      rw [hv] at pv'; cases pv'; rfl
    subst this
    have hd : ellWs.drop i = w :: ellWs.drop (i + 1) := by
      obtain ⟨hlt, e⟩ := List.getElem?_eq_some_iff.mp hw
      rw [List.drop_eq_getElem_cons hlt, e]
    have hwl : w.length ≤ sizeLine := by
      have : w ∈ ellWs := List.mem_of_getElem? hw
      rw [sizeLine_eq]
      have all : ∀ w ∈ ellWs, w.length ≤ 2 := by decide +kernel
      have := all w this
      omega
    rw [hd] at ej
    unfold ellGo at ej
    with_reducible refine wpAny_execs_cons ?_
    (with_reducible refine wpAny_Assign_Name ?_ ?ka); (case ka => rfl)
    (with_reducible refine' MethodCall_ ?_ ?ka); (case ka => rfl)
    (with_reducible refine' rd ?ka ?kb ?_ ?kc ?kd ?ke); (case ka => with_reducible assumption); (case kb => walk_at "look"); (case kc => rfl); (case kd => rfl); (case ke => decide)
    with_reducible refine GM.find ?_
    (with_reducible refine cwm ?_ ?ka ?kb); (case ka => rfl); (case kb => rfl)
    (with_reducible refine spliced_more ?_ ?ka); (case ka => rfl)
    (with_reducible refine' rd ?ka ?kb ?_ ?kc ?kd ?ke); (case ka => with_reducible assumption); (case kb => walk_at "look"); (case kc => rfl); (case kd => rfl); (case ke => decide)
    (with_reducible refine spliced_more ?_ ?ka); (case ka => rfl)
    (with_reducible refine' rd ?ka ?kb ?_ ?kc ?kd ?ke); (case ka => with_reducible assumption); (case kb => walk_at "look"); (case kc => rfl); (case kd => rfl); (case ke => decide)
    (with_reducible refine spliced_more ?_ ?ka); (case ka => rfl)
    (with_reducible refine' rd ?ka ?kb ?_ ?kc ?kd ?ke); (case ka => with_reducible assumption); (case kb => walk_at "look"); (case kc => rfl); (case kd => rfl); (case ke => decide)
    with_reducible refine spliced_none ?_
    (with_reducible refine findS4 ?_); intro _ _
    (with_reducible refine' sto ?ka ?_ ?kb ?kc); (case ka => with_reducible assumption); (case kb => rfl); (case kc => rfl); intro _ _ _
    with_reducible refine wpAny_execs_cons ?_
    with_reducible refine wpAny_If ?_
    (with_reducible refine wpAny_isTrue_Compare1 ?_ ?ka); (case ka => with_unfolding_all rfl)
    (with_reducible refine' rd ?ka ?kb ?_ ?kc ?kd ?ke); (case ka => with_reducible assumption); (case kb => walk_at "look"); (case kc => rfl); (case kd => rfl); (case ke => decide)
    (with_reducible refine cInt ?_); intro _ _
    with_reducible refine ltI ?_
    with_reducible refine trB ?_
    by_cases hf : find4 g w p g.length < 0
    · rw [if_pos (by simpa using hf)]
      rw [if_pos hf] at ej
      with_reducible refine wpAny_execs_cons ?_
      with_reducible refine wpAny_Return_some ?_
      with_reducible refine wpAny_Constant_bool ?_
      rw [ej]
      exact q _ _ (St.F (by assumption)).keep
    · rw [if_neg (by simpa using hf)]
      rw [if_neg hf] at ej
      with_reducible refine wpAny_execs_nil ?_
      with_reducible refine wpAny_execs_cons ?_
      with_reducible refine wpAny_AugAssign_Name ?_
      (with_reducible refine' rdn ?ka ?kb ?_ ?kc ?kd); (case ka => with_reducible assumption); (case kb => walk_at "look"); (case kc => rfl); (case kd => rfl)
      (with_reducible refine Call_ ?_ ?ka); (case ka => rfl)
      (with_reducible refine' rdB ?ka ?kb ?kc ?kd ?_ ?ke ?kf ?kg ?kh); (case ka => with_reducible assumption); (case kb => with_reducible assumption); (case kc => first | with_reducible exact gb0 _ | with_reducible exact gb1 _ | with_reducible exact gb2 _ | with_reducible exact gb3 _ | with_reducible exact gb4 _); (case kd => first | exact boot_len | exact boot_range | exact boot_enumerate | exact boot_tuple | exact boot_sum); (case ke => decide); (case kf => rfl); (case kg => rfl); (case kh => decide)
      (with_reducible refine callWith_builtin1 ?_ ?ka ?kb); (case ka => rfl); (case kb => rfl)
      (with_reducible refine spliced_more ?_ ?ka); (case ka => rfl)
      (with_reducible refine' rd ?ka ?kb ?_ ?kc ?kd ?ke); (case ka => with_reducible assumption); (case kb => walk_at "look"); (case kc => rfl); (case kd => rfl); (case ke => decide)
      with_reducible refine spliced_none ?_
      (with_reducible refine lenS ?ka ?_); (case ka => with_reducible assumption); intro _ _
      (with_reducible refine iaddI ?_); intro _ _
      (with_reducible refine' sto ?ka ?_ ?kb ?kc); (case ka => with_reducible assumption); (case kb => rfl); (case kc => rfl); intro _ _ _
      with_reducible refine wpAny_execs_nil ?_
      exact ⟨_, [], _, _, rfl, by assumption, rfl, _, _, _, by walk_at "look", by walk_at "look", by walk_at "look", ej⟩
  · rintro m os h t ⟨rfl, p, tp, te, m1, m2, m3, ej⟩ S
    with_reducible refine wpAny_execs_cons ?_
    with_reducible refine wpAny_Return_some ?_
    with_reducible refine wpAny_Constant_bool ?_
    have e : ellM g = true := by rw [← ej]; simp [hl4, ellWs, ellGo]
    rw [e] at q
    exact q _ _ S.F.keep
end
noncomputable def collM (a b : Str) : Int := b2i (decide (b.cps.toList < a.cps.toList)) - b2i (decide (a.cps.toList < b.cps.toList))
noncomputable def leastStep (l : Option Str) (k : Str) : Option Str := match l with
  | none => some k
  | some x => if collM k x == -1 then some k else some x
noncomputable def leastM (D : List (Str × Int)) : Option Str := D.foldl (fun l p => leastStep l p.1) none
noncomputable def optV (l : Option Str) (t : Tok) : Value := match l with | none => .none | some x => .str x t
section
variable {prog : Program} {w : World} {A : Around} {E : Value → Shared → Prop} {h₀ h : Heap} {L : Addr} {m : Str → Option Value} {pre post os : List (Addr × Obj)} {gs : Array GenState} {dr : Drawn} {t : Nat} {o : OsState} {pos : Pos} {env : Env} {Q : Value → Shared → Prop}
theorem coll_call {a b : Str} {ta tb : Tok} (C : Cx w h₀) (S : St h₀ L m os h) (hroom : A.depth < recursionLimit) (q : ∀ h' t' tk, St h₀ L m os h' → Q (.int (collM a b) tk) ⟨h', gs, dr, t', o⟩) :
    wpAny (model prog w) A (call (.ref 101) [.str a ta, .str b tb]) Q E ⟨h, gs, dr, t, o⟩ := coll_spec (s := ⟨h, gs, dr, t, o⟩) (C.keeps S.F.keep) hroom (fun h' t' tk k => q h' t' tk (S.grow k))
theorem itDB {d : Addr} {ob : Obj} {kvs : List (Str × Value)} (S : St h₀ L m os h) (hb : h₀.get? d = some ob) (hk : ob.IsDictOf (SK prog w) kvs) (hsm : (d == sysModules) = false)
    (q : ∀ I oI h' ep, St h₀ L m ((I, oI) :: os) h' → h'.IsKeyIter I d 0 kvs.length ep ∧ h'.DictAt (SK prog w) d kvs ep → d ≠ I → Q (.ref I) ⟨h', gs, dr, t, o⟩) :
    wpAny (model prog w) A (pyIter (.ref d)) Q E ⟨h, gs, dr, t, o⟩ := by
  have hd : h.get? d = some ob := S.F.keep _ _ hb
  obtain ⟨ep, hda⟩ := (Heap.dictOf_iff.mpr ⟨ob, hd, hk⟩ : h.DictOf (SK prog w) d kvs).dictAt
  have S' := S.push { cls := .type "dict_keyiterator", data := .fields #[.ref d, .int 0 0, .int kvs.length 0, .int ep 0] }
  exact wpAny_pyIter_dict (s := ⟨h, gs, dr, t, o⟩) hsm hda (q _ _ _ ep S' ⟨⟨_, S'.mem (.head _), rfl, rfl⟩, hda.push _⟩ (Nat.ne_of_lt (Heap.lt_size hd)))
theorem least_spec {s : Shared} {d : Addr} {ob : Obj} {D : List (Str × Int)} (C : Cx w s.heap) (hroom : A.depth + 1 < recursionLimit) (hh : A.handled = none) (hb : s.heap.get? d = some ob) (hD : DOb prog w ob D) (hsm : (d == sysModules) = false)
    (q : ∀ h' t' tk, s.heap.StaysIn h' → Q (optV (leastM D) tk) ⟨h', s.gens, s.drawn, t', s.os⟩) :
    wpAny (model prog w) A (call (.ref 122) [.ref d]) Q E s := by
  obtain ⟨kvs, hk, hv⟩ := hD
  refine call_fn (binds := [(Str.ofString "heap", .ref d)]) C rfl rfl (Nat.lt_of_succ_lt hroom) rfl rfl (fun h₁ t S => ?_)
  with_reducible refine wpAny_execs_cons ?_
  (with_reducible refine wpAny_Assign_Name ?_ ?ka); (case ka => rfl)
  with_reducible refine wpAny_Constant_none ?_
  (with_reducible refine' sto ?ka ?_ ?kb ?kc); (case ka => with_reducible assumption); (case kb => rfl); (case kc => rfl); intro _ _ _
  with_reducible refine wpAny_execs_cons ?_
  (with_reducible refine' wpAny_For ?_ ?ka); (case ka => intro _; rfl)
  (with_reducible refine' rd ?ka ?kb ?_ ?kc ?kd ?ke); (case ka => with_reducible assumption); (case kb => walk_at "look"); (case kc => rfl); (case kd => rfl); (case ke => decide)
  refine itDB (by assumption) hb hk hsm (fun I oI h' ep S' wt ne => ?_)
  refine for_loop (con := []) (os := []) (Walks.dictKeys (by exact hh) I d ne kvs ep) (fun i h wt => let ⟨o, ho, _⟩ := wt.1; ⟨o, ho⟩) ?_
    (fun i m os => os = [] ∧ ∃ l tk, m (Str.ofString "least") = some (optV l tk) ∧ (D.drop i).foldl (fun l p => leastStep l p.1) l = leastM D)
    ?_ ?_ S' wt ⟨rfl, none, 0, rfl, rfl⟩
  · intro b hb'
    rcases List.mem_cons.mp hb' with rfl | hb'
    · exact .inl rfl
    · rw [List.mem_singleton.mp hb']; exact .inr (.inl ⟨_, hb⟩)
  · rintro i m os v oI h t hi ⟨k, x, hx, hkv⟩ ⟨rfl, l, tk, m1, ej⟩ S
    obtain ⟨tv, rfl⟩ := Value.isStrOf_shape hkv
    obtain ⟨n, hn⟩ := hv.item hx
    have hd : D.drop i = (k, n) :: D.drop (i + 1) := by
      obtain ⟨hlt, e⟩ := List.getElem?_eq_some_iff.mp hn
      rw [List.drop_eq_getElem_cons hlt, e]
    rw [hd, List.foldl_cons] at ej
    cases l with
    | none =>
      have m1' : m (Str.ofString "least") = some .none := m1
      with_reducible refine wpAny_execs_cons ?_
      with_reducible refine wpAny_If ?_
      with_reducible refine isTrue_or ?_
      (with_reducible refine wpAny_isTrue_Compare1 ?_ ?ka); (case ka => with_unfolding_all rfl)
      (with_reducible refine' rd ?ka ?kb ?_ ?kc ?kd ?ke); (case ka => with_reducible assumption); (case kb => walk_at "look"); (case kc => rfl); (case kd => rfl); (case ke => decide)
      with_reducible refine wpAny_Constant_none ?_
      with_reducible refine is_none_none ?_
      with_reducible refine trB ?_
      with_reducible refine itT ?_
      with_reducible refine itT ?_
      with_reducible refine wpAny_execs_cons ?_
      (with_reducible refine wpAny_Assign_Name ?_ ?ka); (case ka => rfl)
      (with_reducible refine' rd ?ka ?kb ?_ ?kc ?kd ?ke); (case ka => with_reducible assumption); (case kb => walk_at "look"); (case kc => rfl); (case kd => rfl); (case ke => decide)
      (with_reducible refine' sto ?ka ?_ ?kb ?kc); (case ka => with_reducible assumption); (case kb => rfl); (case kc => rfl); intro _ _ _
      with_reducible refine wpAny_execs_nil ?_
      with_reducible refine wpAny_execs_nil ?_
      exact ⟨_, [], _, _, rfl, by assumption, rfl, some k, _, by walk_at "look", ej⟩
    | some x =>
      have m1' : m (Str.ofString "least") = some (.str x tk) := m1
      with_reducible refine wpAny_execs_cons ?_
      with_reducible refine wpAny_If ?_
      with_reducible refine isTrue_or ?_
      (with_reducible refine wpAny_isTrue_Compare1 ?_ ?ka); (case ka => with_unfolding_all rfl)
      (with_reducible refine' rd ?ka ?kb ?_ ?kc ?kd ?ke); (case ka => with_reducible assumption); (case kb => walk_at "look"); (case kc => rfl); (case kd => rfl); (case ke => decide)
      with_reducible refine wpAny_Constant_none ?_
      with_reducible refine is_str_none ?_
      with_reducible refine trB ?_
      with_reducible refine itF ?_
      with_reducible refine isTrue_or ?_
      (with_reducible refine wpAny_isTrue_Compare1 ?_ ?ka); (case ka => with_unfolding_all rfl)
      (with_reducible refine Call_ ?_ ?ka); (case ka => rfl)
      (with_reducible refine' rdG ?ka ?kb ?kc ?_ ?kd ?ke ?kf); (case ka => with_reducible assumption); (case kb => with_reducible assumption); (case kc => first | with_reducible exact gl0 _ | with_reducible exact gl1 _ | with_reducible exact gl2 _ | with_reducible exact gl3 _ | with_reducible exact gl4 _ | with_reducible exact gl5 _ | with_reducible exact gl6 _ | with_reducible exact gl7 _ | with_reducible exact gl8 _ | with_reducible exact gl9 _); (case kd => rfl); (case ke => rfl); (case kf => decide)
      (with_reducible refine' cwf ?ka ?kb ?_ ?kc ?kd); (case ka => with_reducible assumption); (case kb => exact rfl); (case kc => rfl); (case kd => rfl)
      (with_reducible refine spliced_more ?_ ?ka); (case ka => rfl)
      (with_reducible refine' rd ?ka ?kb ?_ ?kc ?kd ?ke); (case ka => with_reducible assumption); (case kb => walk_at "look"); (case kc => rfl); (case kd => rfl); (case ke => decide)
      (with_reducible refine spliced_more ?_ ?ka); (case ka => rfl)
      (with_reducible refine' rd ?ka ?kb ?_ ?kc ?kd ?ke); (case ka => with_reducible assumption); (case kb => walk_at "look"); (case kc => rfl); (case kd => rfl); (case ke => decide)
      with_reducible refine spliced_none ?_
      (with_reducible refine' And.intro (inK ?ka ?kb) ?_); (case ka => with_reducible assumption); (case kb => with_reducible assumption)
      refine' coll_call C ?S ?hr (fun h' t' tk S' => ?_)
      case S => with_reducible assumption
      case hr => exact hroom
      with_reducible refine wpAny_UnaryOp ?_
      (with_reducible refine cInt ?_); intro _ _
      (with_reducible refine negI ?_); intro _ _
      with_reducible refine eqI ?_
      with_reducible refine trB ?_
      by_cases hc : (collM k x == -1) = true
      · have ej' : List.foldl (fun l p => leastStep l p.1) (some k) (D.drop (i + 1)) = leastM D := by rw [← ej]; simp only [leastStep, hc, if_true]
        rw [if_pos hc]
        with_reducible refine itT ?_
        with_reducible refine wpAny_execs_cons ?_
        (with_reducible refine wpAny_Assign_Name ?_ ?ka); (case ka => rfl)
        (with_reducible refine' rd ?ka ?kb ?_ ?kc ?kd ?ke); (case ka => with_reducible assumption); (case kb => walk_at "look"); (case kc => rfl); (case kd => rfl); (case ke => decide)
        (with_reducible refine' sto ?ka ?_ ?kb ?kc); (case ka => with_reducible assumption); (case kb => rfl); (case kc => rfl); intro _ _ _
        with_reducible refine wpAny_execs_nil ?_
        with_reducible refine wpAny_execs_nil ?_
        exact ⟨_, [], _, _, rfl, by assumption, rfl, some k, _, by walk_at "look", ej'⟩
      · have ej' : List.foldl (fun l p => leastStep l p.1) (some x) (D.drop (i + 1)) = leastM D := by rw [← ej]; simp only [leastStep, hc]; rfl
        rw [if_neg hc]
        with_reducible refine isTrue_or_nil ?_
        with_reducible refine itF ?_
        with_reducible refine wpAny_execs_nil ?_
        with_reducible refine wpAny_execs_nil ?_
        exact ⟨_, [], _, _, rfl, by assumption, rfl, some x, _, by walk_at "look", ej'⟩
  · rintro m os h t ⟨rfl, l, tk, m1, ej⟩ S
    have e : D.drop kvs.length = [] := by rw [hv.len]; simp
    rw [e] at ej
    have ej' : l = leastM D := ej
    subst ej'
    with_reducible refine wpAny_execs_cons ?_
    with_reducible refine wpAny_Return_some ?_
    (with_reducible refine' rd ?ka ?kb ?_ ?kc ?kd ?ke); (case ka => with_reducible assumption); (case kb => walk_at "look"); (case kc => rfl); (case kd => rfl); (case ke => decide)
    exact q _ _ _ S.F.keep
end
section
variable {prog : Program} {w : World} {A : Around} {E : Value → Shared → Prop} {h₀ h : Heap} {L : Addr} {m : Str → Option Value} {pre post os : List (Addr × Obj)} {gs : Array GenState} {dr : Drawn} {t : Nat} {o : OsState} {pos : Pos} {env : Env} {Q : Value → Shared → Prop}
theorem ell_call {g : Str} {tw tg : Tok} (C : Cx w h₀) (S : St h₀ L m os h) (hroom : A.depth < recursionLimit) (hh : A.handled = none) (hg : g.length ≤ sizeLine) (q : ∀ h' t', St h₀ L m os h' → Q (.bool (ellM g)) ⟨h', gs, dr, t', o⟩) :
    wpAny (model prog w) A (call (.ref 94) [.str (Str.ofString "...\t... ...") tw, .str g tg]) Q E ⟨h, gs, dr, t, o⟩ := ell_spec (s := ⟨h, gs, dr, t, o⟩) (C.keeps S.F.keep) hroom hh hg (fun h' t' k => q h' t' (S.grow k))
theorem strip_call {x r : Str} {tx ta : Tok} {am : Int} (C : Cx w h₀) (S : St h₀ L m os h) (hroom : A.depth < recursionLimit) (hr : stripM x am = some r) (q : ∀ h' t' tk, St h₀ L m os h' → Q (.str r tk) ⟨h', gs, dr, t', o⟩) :
    wpAny (model prog w) A (call (.ref 108) [.str x tx, .int am ta]) Q E ⟨h, gs, dr, t, o⟩ := strip_spec (s := ⟨h, gs, dr, t, o⟩) (C.keeps S.F.keep) hroom hr (fun h' t' tk k => q h' t' tk (S.grow k))
theorem least_call {d : Addr} {ob : Obj} {D : List (Str × Int)} {x : Str} (C : Cx w h₀) (S : St h₀ L m os h) (hroom : A.depth + 1 < recursionLimit) (hh : A.handled = none) (hm : (d, ob) ∈ os) (hD : DOb prog w ob D) (hsm : (d == sysModules) = false)
    (hx : leastM D = some x) (q : ∀ h' t' tk, St h₀ L m os h' → Q (.str x tk) ⟨h', gs, dr, t', o⟩) :
    wpAny (model prog w) A (call (.ref 122) [.ref d]) Q E ⟨h, gs, dr, t, o⟩ := least_spec (s := ⟨h, gs, dr, t, o⟩) (C.keeps S.F.keep) hroom hh (S.mem hm) hD hsm (fun h' t' tk k => by rw [hx]; exact q h' t' tk (S.grow k))
/-- garbage is let go -/
theorem St.sub {os' : List (Addr × Obj)} (S : St h₀ L m os h) (hs : os'.Sublist os) : St h₀ L m os' h := ⟨S.F, fun p hp => S.N p (hs.subset hp), S.D.sublist (hs.map _)⟩
theorem apM {l : Addr} {vs : List Value} {n : Nat} {pl : Sem Bool} {Q : Value × List Value → Shared → Prop} (S : St h₀ L m os h) (hm : (l, lob vs n) ∈ os) (q : Q (.builtin "list.append", [.ref l]) ⟨h, gs, dr, t, o⟩) :
    wpAny (model prog w) A (getMethod (.ref l) (Str.ofString "append") pl) Q E ⟨h, gs, dr, t, o⟩ := getMethod_append_N (s := ⟨h, gs, dr, t, o⟩) S.N hm q
theorem apL {l : Addr} {vs : List Value} {n : Nat} {x : Value} (S : St h₀ L m (pre ++ (l, lob vs n) :: post) h) (hz : vs.length ≤ sizeLine) (q : ∀ h', St h₀ L m (pre ++ (l, lob (vs ++ [x]) (n + 1)) :: post) h' → Q .none ⟨h', gs, dr, t, o⟩) :
    wpAny (model prog w) A (call (.builtin "list.append") [.ref l, x]) Q E ⟨h, gs, dr, t, o⟩ :=
  append_at (s := ⟨h, gs, dr, t, o⟩) (hsz := by simpa using hz) (S.mem (List.mem_append_right _ (.head _))) fun h' hs ho' => q h' (S.same hs (by simpa using ho'))
end
section
variable {prog : Program} {w : World} {A : Around} {E : Value → Shared → Prop} {h₀ h : Heap} {L : Addr} {m : Str → Option Value} {pre post os : List (Addr × Obj)} {gs : Array GenState} {dr : Drawn} {t : Nat} {o : OsState} {pos : Pos} {Q : Value → Shared → Prop} {name : Str} {scope : Scope} {a : Addr} {cd : Value}
theorem dOne {x kx : Str} {tk : Tok} {i : Int} {k : Nat} {p1 p2 : Pos} (C : Cx w h₀) (S : St h₀ L m os h) (hv : m kx = some (.str x tk)) (q : ∀ h' t' d ob, DOb prog w ob [(x, i)] → (d == sysModules) = false → St h₀ L m ((d, ob) :: os) h' → Q (.ref d) ⟨h', gs, dr, t', o⟩)
    (hk : scope.kind = .function := by rfl) (hl : (envOf name scope L a cd).kindOf kx = some .local := by rfl) (hd : (kx == ("__debug__" : Str)) = false := by decide) :
    wpAny (model prog w) A (eval (.Dict [some (.Name kx p1)] [.Constant (.int i) k p2] pos) (envOf name scope L a cd)) Q E ⟨h, gs, dr, t, o⟩ := by
  have S' := S.push { cls := .type "dict", data := .dict #[] }
  have hne : (h.objs.size == sysModules) = false := by
    obtain ⟨mg, hg⟩ := C.g
    have : mainGlobals < h.objs.size := (hg.keeps S.F.keep).lt
    have hne : h.objs.size ≠ sysModules := fun e => by rw [e] at this; exact absurd this (by decide)
    simpa using hne
  refine wpAny_Dict_pairs (s := ⟨h, gs, dr, t, o⟩) (knd := SK prog w) (pairs := [(eval (.Name kx p1) (envOf name scope L a cd), do let x ← eval (.Constant (.int i) k p2) (envOf name scope L a cd); standAt pos; pure x)]) rfl (by simp) (by simp) ?_
  refine evalPairs_cons (rd S' hv ?_ hk hl hd)
  refine wpAny_bind (cInt fun t' u => ?_)
  refine wpAny_bind (wpAny_standAt (wpAny_pure ?_))
  refine evalPairs_nil ?_
  refine ⟨[(x, .int i u)], ⟨strKind_is prog w x tk, rfl, trivial⟩, Heap.DictOf.new (knd := SK prog w) h, fun h' hm hs => ?_⟩
  obtain ⟨ob', ho', hk'⟩ := Heap.dictOf_iff.mp hm
  exact q h' _ _ ob' ⟨_, hk', rfl, ⟨u, rfl⟩, trivial⟩ hne (St.same (pre := []) S' hs ho')
end
theorem mulOk1 {x : Str} {n : Int} (hx : x.length = 1) (h1 : -100 ≤ n) (h2 : n ≤ 100) : MulOk x n := by
  refine ⟨by simp; omega, fun _ _ => ?_, fun _ _ => ?_⟩
  · rw [hx]
    rename_i a b
    have h3 : 1 ≤ (2 ^ 63 - 1 : Int) / n := by
      rw [Int.le_ediv_iff_mul_le (by omega)]; omega
    omega
  · rw [hx]
    unfold Builtin.Str.tooLong
    rw [sizeLine_eq]
    simp; omega
theorem foldl_size (a : Array Nat) : ∀ (k : Nat) (acc : Array Nat), ((List.replicate k a).foldl (· ++ ·) acc).size = acc.size + k * a.size
  | 0, acc => by simp
  | k + 1, acc => by
    rw [List.replicate_succ, List.foldl_cons, foldl_size a k]
    rw [Array.size_append, Nat.add_mul, Nat.one_mul]; omega
theorem mul_len {x : Str} {n : Int} (hx : x.length = 1) (h : n ≤ 100) : (Txt.mul x n).length ≤ 100 := by
  unfold Txt.mul
  split
  · decide
  · split
    · omega
    · show Array.size _ ≤ 100
      rw [foldl_size]
      have : x.cps.size = 1 := hx
      rw [this]; simp; omega
noncomputable def movedM (l : Str) : Str := Txt.slice l none (some (Txt.find l (Str.ofString "\t "))) ++ (Str.ofString " \t") ++ Txt.slice l (some (Txt.find l (Str.ofString "\t ") + 2)) none
noncomputable def bareM (l : Str) : Str := Txt.slice l none (some (Txt.find l (Str.ofString "\t "))) ++ Txt.slice l (some (Txt.find l (Str.ofString "\t ") + 2)) none
noncomputable def innerM : Nat → List (Str × Int) → List (Str × Int) → Str → Option (List (Str × Int) × List (Str × Int) × Str)
  | 0, _, _, _ => none
  | n + 1, D, B, l =>
    if 100 < l.length ∨ 100 < D.length ∨ 100 < B.length then none else
    if ellM l = true then
      if Txt.find l (Str.ofString "\t ") < 0 then none else
      if (collM l (movedM l) != -1) = true then none else
      match getV D l with
      | none => none
      | some a =>
        match leastM (putD (delD D l) (movedM l) ((getV (delD D l) (movedM l)).getD 0 + a)) with
        | none => none
        | some l' => innerM n (putD (delD D l) (movedM l) ((getV (delD D l) (movedM l)).getD 0 + a)) (putD B (bareM l) ((getV B (bareM l)).getD 0 + a)) l'
    else some (D, B, l)
noncomputable def outerM (whole : Str) (tabs : Int) : Nat → List (Str × Int) → List Int → Option (List Int)
  | 0, _, _ => none
  | n + 1, D, c =>
    if D.isEmpty then some c else
    if 100 < D.length ∨ 100 < c.length then none else
    match leastM D with
    | none => none
    | some l => match innerM 200 D [] l with
      | none => none
      | some (D', B', l') =>
        if (D'.length : Int) ≠ 1 then none else
        if ¬ (-100 ≤ tabs - c.length ∧ tabs - c.length ≤ 100) then none else
        match stripM (l' ++ Str.ofString " ") (whole.length - tabs - c.length) with
        | none => none
        | some r =>
          if (r != Txt.mul (Str.ofString "\t") (tabs - c.length) ++ Str.ofString " ") = true then none else
          match getV D' l' with
          | none => none
          | some v => outerM whole tabs n B' (c ++ [v])
noncomputable def countsM (whole : Str) : Option (List Int) := if 100 < whole.length then none else outerM whole (Txt.count whole (Str.ofString "\t")) 20 [(whole, 1)] []
theorem delD_len (D : List (Str × Int)) (k : Str) : (delD D k).length ≤ D.length := List.length_filter_le ..
theorem putD_len (D : List (Str × Int)) (k : Str) (v : Int) : (putD D k v).length ≤ D.length + 1 := by
  unfold putD; split <;> simp
theorem movedM_len (l : Str) : (movedM l).length ≤ 2 * l.length + 2 := by
  unfold movedM
  rw [Str.length_append, Str.length_append]
  have h1 := Txt.slice_le l none (some (Txt.find l (Str.ofString "\t ")))
  have h2 := Txt.slice_le l (some (Txt.find l (Str.ofString "\t ") + 2)) none
  have h3 : (Str.ofString " \t").length = 2 := by decide +kernel
  omega
section
variable {prog : Program} {w : World} {A : Around} {E : Value → Shared → Prop} {s : Shared} {Q : Value → Shared → Prop}
theorem counts_spec {x : Str} {tx : Tok} {c₀ : List Int} (C : Cx w s.heap) (hroom : A.depth + 3 < recursionLimit) (hu : A.units + 20 < cLine) (hh : A.handled = none) (hr : countsM x = some c₀)
   (q : ∀ h' t' a vs n, s.heap.StaysIn h' → s.heap.get? a = none → h'.get? a = some (lob vs n) → IntsAre vs c₀ → Q (.ref a) ⟨h', s.gens, s.drawn, t', s.os⟩) :
   wpAny (model prog w) A (call (.ref 129) [.str x tx]) Q E s := by
  unfold countsM at hr
  split at hr
  · cases hr
  next hx =>
  have hx' : x.length ≤ sizeLine := by rw [sizeLine_eq]; omega
  refine call_fn (binds := [(Str.ofString "whole", .str x tx)]) C rfl rfl (by omega) rfl rfl (fun h₁ t S => ?_)
  with_reducible refine wpAny_execs_cons ?_
  (with_reducible refine wpAny_Assign_Name ?_ ?ka); (case ka => rfl)
  (with_reducible refine' MethodCall_ ?_ ?ka); (case ka => rfl)
  (with_reducible refine' rd ?ka ?kb ?_ ?kc ?kd ?ke); (case ka => with_reducible assumption); (case kb => walk_at "look"); (case kc => rfl); (case kd => rfl); (case ke => decide)
  with_reducible refine GM.count ?_
  (with_reducible refine cwm ?_ ?ka ?kb); (case ka => rfl); (case kb => rfl)
  (with_reducible refine spliced_more ?_ ?ka); (case ka => rfl)
  (with_reducible refine cStr ?_); intro _ _
  with_reducible refine spliced_none ?_
  (with_reducible refine countS ?_); intro _ _
  (with_reducible refine' sto ?ka ?_ ?kb ?kc); (case ka => with_reducible assumption); (case kb => rfl); (case kc => rfl); intro _ _ _
  with_reducible refine wpAny_execs_cons ?_
  (with_reducible refine wpAny_Assign_Name ?_ ?ka); (case ka => rfl)
  with_reducible refine List_ ?_
  with_reducible refine spliced_none ?_
  (with_reducible refine' newL ?ka ?_ ?kb); (case ka => with_reducible assumption); (case kb => walk_at "sz"); intro _ _ _ _
  (with_reducible refine' sto ?ka ?_ ?kb ?kc); (case ka => with_reducible assumption); (case kb => rfl); (case kc => rfl); intro _ _ _
  with_reducible refine wpAny_execs_cons ?_
  (with_reducible refine wpAny_Assign_Name ?_ ?ka); (case ka => rfl)
  rename_i h₂ a S₂ fa h₃ t₃ S₃
  refine' dOne C S₃ ?hv (fun h₄ t₄ d ob hD hsm S₄ => ?_) ?hk ?hl ?hd
  case hv => walk_at "look"
  case hk => rfl
  case hl => rfl
  case hd => decide
  (with_reducible refine' sto ?ka ?_ ?kb ?kc); (case ka => with_reducible assumption); (case kb => rfl); (case kc => rfl); intro _ _ _
  rename_i h₅ t₅ S₅
  have fa' : s.heap.get? a = none := (S₃.N _ (.head _)).2.2
  clear fa S₄ S₃ S₂ S
  obtain ⟨I1, hI1⟩ : ∃ I : Nat → Shared → Prop, I = fun n s' => ∃ D c vs k ob d h t tt m, s' = ⟨h, s.gens, s.drawn, t, s.os⟩ ∧ St s.heap s.heap.objs.size m [(d, ob), (a, lob vs k)] h ∧ DOb prog w ob D ∧ (d == sysModules) = false ∧ IntsAre vs c ∧ outerM x (Txt.count x (Str.ofString "\t")) n D c = some c₀ ∧
      m (Str.ofString "heap") = some (.ref d) ∧ m (Str.ofString "counts") = some (.ref a) ∧ m (Str.ofString "whole") = some (.str x tx) ∧ m (Str.ofString "tabs") = some (.int (Txt.count x (Str.ofString "\t")) tt) := ⟨_, rfl⟩
  obtain ⟨X1, hX1⟩ : ∃ X : Shared → Prop, X = fun s' => ∃ vs k d ob h t m, s' = ⟨h, s.gens, s.drawn, t, s.os⟩ ∧ St s.heap s.heap.objs.size m [(d, ob), (a, lob vs k)] h ∧ IntsAre vs c₀ ∧ m (Str.ofString "counts") = some (.ref a) := ⟨_, rfl⟩
  refine while_seq I1 X1 ?_ 20 (by rw [hI1]; exact ⟨_, _, [], 0, ob, d, _, _, _, _, rfl, S₅, hD, hsm, IntsAre.nil, hr, by walk_at "look", by walk_at "look", by walk_at "look", by walk_at "look"⟩) ?_
  · intro n s' hi
    rw [hI1] at hi
    obtain ⟨D, c, vs, k, ob, d, h, t, tt, m, rfl, S, hD, hsm, hI, e, m1, m2, m3, m4⟩ := hi
    cases n with
    | zero => cases e
    | succ n =>
    unfold outerM at e
    (with_reducible refine wpAny_isTrue_Compare1 ?_ ?ka); (case ka => with_unfolding_all rfl)
    (with_reducible refine' rd ?ka ?kb ?_ ?kc ?kd ?ke); (case ka => with_reducible assumption); (case kb => walk_at "look"); (case kc => rfl); (case kd => rfl); (case ke => decide)
    (with_reducible refine' dNew ?ka ?kb ?_); (case ka => with_reducible assumption); (case kb => with_reducible assumption); intro _ _ _ _ _ _
    rename_i h₆ d₂ ob₂ hD₂ hsm₂ S₆
    refine' dNe S₆ ?hm hD ?hm' hD₂ hsm hsm₂ ?hu ?_
    case hm => walk_at "mem"
    case hm' => walk_at "mem"
    case hu => show A.units + 3 < cLine; omega
    with_reducible refine trB ?_
    by_cases hE : D.isEmpty = true
    · rw [if_pos hE] at e; cases e
      rw [if_neg (by rw [hE]; decide)]
      rw [hX1]
      exact ⟨vs, k, d, ob, _, _, _, rfl, S₆.sub (by walk_at "subl"), hI, m2⟩
    rw [if_neg hE] at e
    rw [if_pos (by simpa using hE)]
    split at e
    · cases e
    next hsz =>
    cases hl : leastM D with
    | none => rw [hl] at e; cases e
    | some l =>
    rw [hl] at e
    dsimp only at e
    cases hin : innerM 200 D [] l with
    | none => rw [hin] at e; cases e
    | some res =>
    obtain ⟨D', B', l'⟩ := res
    rw [hin] at e
    dsimp only at e
    have S₇ := S₆.sub (os' := [(d, ob), (a, lob vs k)]) (by walk_at "subl")
    clear S₆ S hD₂ hsm₂
    with_reducible refine wpAny_execs_cons ?_
    (with_reducible refine wpAny_Assign_Name ?_ ?ka); (case ka => rfl)
    (with_reducible refine' dNew ?ka ?kb ?_); (case ka => with_reducible assumption); (case kb => with_reducible assumption); intro _ _ _ _ _ _
    (with_reducible refine' sto ?ka ?_ ?kb ?kc); (case ka => with_reducible assumption); (case kb => rfl); (case kc => rfl); intro _ _ _
    with_reducible refine wpAny_execs_cons ?_
    (with_reducible refine wpAny_Assign_Name ?_ ?ka); (case ka => rfl)
    (with_reducible refine Call_ ?_ ?ka); (case ka => rfl)
    (with_reducible refine' rdG ?ka ?kb ?kc ?_ ?kd ?ke ?kf); (case ka => with_reducible assumption); (case kb => with_reducible assumption); (case kc => first | with_reducible exact gl0 _ | with_reducible exact gl1 _ | with_reducible exact gl2 _ | with_reducible exact gl3 _ | with_reducible exact gl4 _ | with_reducible exact gl5 _ | with_reducible exact gl6 _ | with_reducible exact gl7 _ | with_reducible exact gl8 _ | with_reducible exact gl9 _); (case kd => rfl); (case ke => rfl); (case kf => decide)
    (with_reducible refine' cwf ?ka ?kb ?_ ?kc ?kd); (case ka => with_reducible assumption); (case kb => exact rfl); (case kc => rfl); (case kd => rfl)
    (with_reducible refine spliced_more ?_ ?ka); (case ka => rfl)
    (with_reducible refine' rd ?ka ?kb ?_ ?kc ?kd ?ke); (case ka => with_reducible assumption); (case kb => walk_at "look"); (case kc => rfl); (case kd => rfl); (case ke => decide)
    with_reducible refine spliced_none ?_
    (with_reducible refine' And.intro (inK ?ka ?kb) ?_); (case ka => with_reducible assumption); (case kb => with_reducible assumption)
    rename_i h₈ b obb hB hsmb S₈ h₉ t₉ S₉
    refine' least_call C S₉ ?hr ?hh ?hm hD hsm hl (fun h₁₀ t₁₀ tl S₁₀ => ?_)
    case hr => show A.depth + 1 + 1 < _; omega
    case hh => exact hh
    case hm => walk_at "mem"
    clear S₇ S₈ S₉
    (with_reducible refine' sto ?ka ?_ ?kb ?kc); (case ka => with_reducible assumption); (case kb => rfl); (case kc => rfl); intro _ _ _
    rename_i h₁₁ t₁₁ S₁₁
    obtain ⟨I2, hI2⟩ : ∃ I : Nat → Shared → Prop, I = fun n s' => ∃ D₁ B₁ l₁ obd obb h t tt tl m, s' = ⟨h, s.gens, s.drawn, t, s.os⟩ ∧ St s.heap s.heap.objs.size m [(b, obb), (d, obd), (a, lob vs k)] h ∧ DOb prog w obd D₁ ∧ DOb prog w obb B₁ ∧ innerM n D₁ B₁ l₁ = some (D', B', l') ∧
        m (Str.ofString "heap") = some (.ref d) ∧ m (Str.ofString "below") = some (.ref b) ∧ m (Str.ofString "counts") = some (.ref a) ∧ m (Str.ofString "whole") = some (.str x tx) ∧ m (Str.ofString "tabs") = some (.int (Txt.count x (Str.ofString "\t")) tt) ∧ m (Str.ofString "least") = some (.str l₁ tl) := ⟨_, rfl⟩
    obtain ⟨X2, hX2⟩ : ∃ X : Shared → Prop, X = fun s' => ∃ obd obb h t tt tl m, s' = ⟨h, s.gens, s.drawn, t, s.os⟩ ∧ St s.heap s.heap.objs.size m [(b, obb), (d, obd), (a, lob vs k)] h ∧ DOb prog w obd D' ∧ DOb prog w obb B' ∧ l'.length ≤ 100 ∧ D'.length ≤ 100 ∧
        m (Str.ofString "heap") = some (.ref d) ∧ m (Str.ofString "below") = some (.ref b) ∧ m (Str.ofString "counts") = some (.ref a) ∧ m (Str.ofString "whole") = some (.str x tx) ∧ m (Str.ofString "tabs") = some (.int (Txt.count x (Str.ofString "\t")) tt) ∧ m (Str.ofString "least") = some (.str l' tl) := ⟨_, rfl⟩
    refine while_seq I2 X2 ?_ 200 (by rw [hI2]; exact ⟨D, [], l, ob, obb, _, _, _, _, _, rfl, S₁₁, hD, hB, hin, by walk_at "look", by walk_at "look", by walk_at "look", by walk_at "look", by walk_at "look", by walk_at "look"⟩) ?_
    · intro n s' hi
      rw [hI2] at hi
      obtain ⟨D₁, B₁, l₁, obd, obb, h, t, tt, tl, m, rfl, S, hD, hB, e, m1, m2, m3, m4, m5, m6⟩ := hi
      cases n with
      | zero => cases e
      | succ n =>
      unfold innerM at e
      split at e
      · cases e
      next hsz =>
      have hl₁ : l₁.length ≤ sizeLine := by rw [sizeLine_eq]; omega
      (with_reducible refine isTrue_plain ?_ ?ka); (case ka => rfl)
      (with_reducible refine Call_ ?_ ?ka); (case ka => rfl)
      (with_reducible refine' rdG ?ka ?kb ?kc ?_ ?kd ?ke ?kf); (case ka => with_reducible assumption); (case kb => with_reducible assumption); (case kc => first | with_reducible exact gl0 _ | with_reducible exact gl1 _ | with_reducible exact gl2 _ | with_reducible exact gl3 _ | with_reducible exact gl4 _ | with_reducible exact gl5 _ | with_reducible exact gl6 _ | with_reducible exact gl7 _ | with_reducible exact gl8 _ | with_reducible exact gl9 _); (case kd => rfl); (case ke => rfl); (case kf => decide)
      (with_reducible refine' cwf ?ka ?kb ?_ ?kc ?kd); (case ka => with_reducible assumption); (case kb => exact rfl); (case kc => rfl); (case kd => rfl)
      (with_reducible refine spliced_more ?_ ?ka); (case ka => rfl)
      (with_reducible refine cStr ?_); intro _ _
      (with_reducible refine spliced_more ?_ ?ka); (case ka => rfl)
      (with_reducible refine' rd ?ka ?kb ?_ ?kc ?kd ?ke); (case ka => with_reducible assumption); (case kb => walk_at "look"); (case kc => rfl); (case kd => rfl); (case ke => decide)
      with_reducible refine spliced_none ?_
      (with_reducible refine' And.intro (inK ?ka ?kb) ?_); (case ka => with_reducible assumption); (case kb => with_reducible assumption)
      refine' ell_call C S ?hr ?hh hl₁ (fun h' t' S' => ?_)
      case hr => show A.depth + 1 < _; omega
      case hh => exact hh
      with_reducible refine trB ?_
      by_cases hel : ellM l₁ = true
      · rw [if_pos hel] at e ⊢
        by_cases hf : Txt.find l₁ (Str.ofString "\t ") < 0
        · rw [if_pos hf] at e; cases e
        rw [if_neg hf] at e
        have z1 := Txt.slice_le l₁ none (some (Txt.find l₁ (Str.ofString "\t ")))
        have z2 := Txt.slice_le l₁ (some (Txt.find l₁ (Str.ofString "\t ") + 2)) none
        have z3 : (Str.ofString " \t").length = 2 := by decide +kernel
        with_reducible refine wpAny_execs_cons ?_
        (with_reducible refine wpAny_Assign_Name ?_ ?ka); (case ka => rfl)
        (with_reducible refine' MethodCall_ ?_ ?ka); (case ka => rfl)
        (with_reducible refine' rd ?ka ?kb ?_ ?kc ?kd ?ke); (case ka => with_reducible assumption); (case kb => walk_at "look"); (case kc => rfl); (case kd => rfl); (case ke => decide)
        with_reducible refine GM.find ?_
        (with_reducible refine cwm ?_ ?ka ?kb); (case ka => rfl); (case kb => rfl)
        (with_reducible refine spliced_more ?_ ?ka); (case ka => rfl)
        (with_reducible refine cStr ?_); intro _ _
        with_reducible refine spliced_none ?_
        (with_reducible refine findS ?_); intro _ _
        (with_reducible refine' sto ?ka ?_ ?kb ?kc); (case ka => with_reducible assumption); (case kb => rfl); (case kc => rfl); intro _ _ _
        with_reducible refine wpAny_execs_cons ?_
        with_reducible refine wpAny_If ?_
        (with_reducible refine wpAny_isTrue_Compare1 ?_ ?ka); (case ka => with_unfolding_all rfl)
        (with_reducible refine' rd ?ka ?kb ?_ ?kc ?kd ?ke); (case ka => with_reducible assumption); (case kb => walk_at "look"); (case kc => rfl); (case kd => rfl); (case ke => decide)
        (with_reducible refine cInt ?_); intro _ _
        with_reducible refine ltI ?_
        with_reducible refine trB ?_
        rw [if_neg (by simpa using hf)]
        clear S S'
        with_reducible refine wpAny_execs_nil ?_
        with_reducible refine wpAny_execs_cons ?_
        (with_reducible refine wpAny_Assign_Name ?_ ?ka); (case ka => rfl)
        with_reducible refine wpAny_BinOp ?_
        with_reducible refine wpAny_BinOp ?_
        with_reducible refine Subscript_ ?_
        (with_reducible refine' rd ?ka ?kb ?_ ?kc ?kd ?ke); (case ka => with_reducible assumption); (case kb => walk_at "look"); (case kc => rfl); (case kd => rfl); (case ke => decide)
        with_reducible refine wpAny_Slice ?_
        with_reducible refine evalPart_none_step ?_
        with_reducible refine evalPart_some_step ?_
        (with_reducible refine' rd ?ka ?kb ?_ ?kc ?kd ?ke); (case ka => with_reducible assumption); (case kb => walk_at "look"); (case kc => rfl); (case kd => rfl); (case ke => decide)
        with_reducible refine evalPart_none_step ?_
        (with_reducible refine' sliceNS ?ka ?kb ?_ ?kc ?kd); (case ka => with_reducible assumption); (case kb => walk_at "sz"); (case kc => with_unfolding_all rfl); (case kd => intro _; with_unfolding_all rfl); intro _ _ _ _
        (with_reducible refine cStr ?_); intro _ _
        (with_reducible refine addS ?ka ?_); (case ka => rw [sizeLine_eq]; (try simp only [Str.length_append]); omega); intro _ _
        with_reducible refine Subscript_ ?_
        (with_reducible refine' rd ?ka ?kb ?_ ?kc ?kd ?ke); (case ka => with_reducible assumption); (case kb => walk_at "look"); (case kc => rfl); (case kd => rfl); (case ke => decide)
        with_reducible refine wpAny_Slice ?_
        with_reducible refine evalPart_some_step ?_
        with_reducible refine wpAny_BinOp ?_
        (with_reducible refine' rd ?ka ?kb ?_ ?kc ?kd ?ke); (case ka => with_reducible assumption); (case kb => walk_at "look"); (case kc => rfl); (case kd => rfl); (case ke => decide)
        (with_reducible refine cInt ?_); intro _ _
        (with_reducible refine addI ?_); intro _ _
        with_reducible refine evalPart_none_step ?_
        with_reducible refine evalPart_none_step ?_
        (with_reducible refine' sliceSN ?ka ?kb ?_ ?kc ?kd); (case ka => with_reducible assumption); (case kb => walk_at "sz"); (case kc => with_unfolding_all rfl); (case kd => intro _; with_unfolding_all rfl); intro _ _ _ _
        (with_reducible refine addS ?ka ?_); (case ka => rw [sizeLine_eq]; (try simp only [Str.length_append]); omega); intro _ _
        (with_reducible refine' sto ?ka ?_ ?kb ?kc); (case ka => with_reducible assumption); (case kb => rfl); (case kc => rfl); intro _ _ _
        with_reducible refine wpAny_execs_cons ?_
        (with_reducible refine wpAny_Assign_Name ?_ ?ka); (case ka => rfl)
        with_reducible refine wpAny_BinOp ?_
        with_reducible refine Subscript_ ?_
        (with_reducible refine' rd ?ka ?kb ?_ ?kc ?kd ?ke); (case ka => with_reducible assumption); (case kb => walk_at "look"); (case kc => rfl); (case kd => rfl); (case ke => decide)
        with_reducible refine wpAny_Slice ?_
        with_reducible refine evalPart_none_step ?_
        with_reducible refine evalPart_some_step ?_
        (with_reducible refine' rd ?ka ?kb ?_ ?kc ?kd ?ke); (case ka => with_reducible assumption); (case kb => walk_at "look"); (case kc => rfl); (case kd => rfl); (case ke => decide)
        with_reducible refine evalPart_none_step ?_
        (with_reducible refine' sliceNS ?ka ?kb ?_ ?kc ?kd); (case ka => with_reducible assumption); (case kb => walk_at "sz"); (case kc => with_unfolding_all rfl); (case kd => intro _; with_unfolding_all rfl); intro _ _ _ _
        with_reducible refine Subscript_ ?_
        (with_reducible refine' rd ?ka ?kb ?_ ?kc ?kd ?ke); (case ka => with_reducible assumption); (case kb => walk_at "look"); (case kc => rfl); (case kd => rfl); (case ke => decide)
        with_reducible refine wpAny_Slice ?_
        with_reducible refine evalPart_some_step ?_
        with_reducible refine wpAny_BinOp ?_
        (with_reducible refine' rd ?ka ?kb ?_ ?kc ?kd ?ke); (case ka => with_reducible assumption); (case kb => walk_at "look"); (case kc => rfl); (case kd => rfl); (case ke => decide)
        (with_reducible refine cInt ?_); intro _ _
        (with_reducible refine addI ?_); intro _ _
        with_reducible refine evalPart_none_step ?_
        with_reducible refine evalPart_none_step ?_
        (with_reducible refine' sliceSN ?ka ?kb ?_ ?kc ?kd); (case ka => with_reducible assumption); (case kb => walk_at "sz"); (case kc => with_unfolding_all rfl); (case kd => intro _; with_unfolding_all rfl); intro _ _ _ _
        (with_reducible refine addS ?ka ?_); (case ka => rw [sizeLine_eq]; (try simp only [Str.length_append]); omega); intro _ _
        (with_reducible refine' sto ?ka ?_ ?kb ?kc); (case ka => with_reducible assumption); (case kb => rfl); (case kc => rfl); intro _ _ _
        with_reducible refine wpAny_execs_cons ?_
        with_reducible refine wpAny_If ?_
        (with_reducible refine wpAny_isTrue_Compare1 ?_ ?ka); (case ka => with_unfolding_all rfl)
        (with_reducible refine Call_ ?_ ?ka); (case ka => rfl)
        (with_reducible refine' rdG ?ka ?kb ?kc ?_ ?kd ?ke ?kf); (case ka => with_reducible assumption); (case kb => with_reducible assumption); (case kc => first | with_reducible exact gl0 _ | with_reducible exact gl1 _ | with_reducible exact gl2 _ | with_reducible exact gl3 _ | with_reducible exact gl4 _ | with_reducible exact gl5 _ | with_reducible exact gl6 _ | with_reducible exact gl7 _ | with_reducible exact gl8 _ | with_reducible exact gl9 _); (case kd => rfl); (case ke => rfl); (case kf => decide)
        (with_reducible refine' cwf ?ka ?kb ?_ ?kc ?kd); (case ka => with_reducible assumption); (case kb => exact rfl); (case kc => rfl); (case kd => rfl)
        (with_reducible refine spliced_more ?_ ?ka); (case ka => rfl)
        (with_reducible refine' rd ?ka ?kb ?_ ?kc ?kd ?ke); (case ka => with_reducible assumption); (case kb => walk_at "look"); (case kc => rfl); (case kd => rfl); (case ke => decide)
        (with_reducible refine spliced_more ?_ ?ka); (case ka => rfl)
        (with_reducible refine' rd ?ka ?kb ?_ ?kc ?kd ?ke); (case ka => with_reducible assumption); (case kb => walk_at "look"); (case kc => rfl); (case kd => rfl); (case ke => decide)
        with_reducible refine spliced_none ?_
        (with_reducible refine' And.intro (inK ?ka ?kb) ?_); (case ka => with_reducible assumption); (case kb => with_reducible assumption)
        refine' coll_call (b := movedM l₁) C ?S ?hr (fun h₂₀ t₂₀ tk₂₀ S₂₀ => ?_)
        case S => with_reducible assumption
        case hr => show A.depth + 1 < _; omega
        with_reducible refine wpAny_UnaryOp ?_
        (with_reducible refine cInt ?_); intro _ _
        (with_reducible refine negI ?_); intro _ _
        with_reducible refine neI ?_
        with_reducible refine trB ?_
        by_cases hc : (collM l₁ (movedM l₁) != -1) = true
        · rw [if_pos hc] at e; cases e
        rw [if_neg hc] at e
        refine (if_neg (c := (collM l₁ (movedM l₁) != -1) = true) hc).symm ▸ ?_
        cases hg : getV D₁ l₁ with
        | none => rw [hg] at e; cases e
        | some a₁ =>
        rw [hg] at e
        dsimp only at e
        with_reducible refine wpAny_execs_nil ?_
        with_reducible refine wpAny_execs_cons ?_
        (with_reducible refine wpAny_Assign_Name ?_ ?ka); (case ka => rfl)
        with_reducible refine Subscript_ ?_
        (with_reducible refine' rd ?ka ?kb ?_ ?kc ?kd ?ke); (case ka => with_reducible assumption); (case kb => walk_at "look"); (case kc => rfl); (case kd => rfl); (case ke => decide)
        (with_reducible refine' rd ?ka ?kb ?_ ?kc ?kd ?ke); (case ka => with_reducible assumption); (case kb => walk_at "look"); (case kc => rfl); (case kd => rfl); (case ke => decide)
        refine' dGet ?S ?hm hD hg (fun t₂₁ u₂₁ => ?_)
        case S => with_reducible assumption
        case hm => walk_at "mem"
        (with_reducible refine' sto ?ka ?_ ?kb ?kc); (case ka => with_reducible assumption); (case kb => rfl); (case kc => rfl); intro _ _ _
        with_reducible refine wpAny_execs_cons ?_
        with_reducible refine wpAny_Delete ?_
        with_reducible refine wpAny_deleteEach_cons ?_
        with_reducible refine delete_Subscript ?_
        (with_reducible refine' rd ?ka ?kb ?_ ?kc ?kd ?ke); (case ka => with_reducible assumption); (case kb => walk_at "look"); (case kc => rfl); (case kd => rfl); (case ke => decide)
        (with_reducible refine' rd ?ka ?kb ?_ ?kc ?kd ?ke); (case ka => with_reducible assumption); (case kb => walk_at "look"); (case kc => rfl); (case kd => rfl); (case ke => decide)
        rename_i h₃₀ t₃₀ S₃₀
        refine' dDel (pre := [(b, obb)]) (post := [(a, lob vs k)]) S₃₀ hD ?hz hg (fun h₃₁ t₃₁ obd₁ hD₁ S₃₁ => ?_)
        case hz => rw [sizeLine_eq]; omega
        have S₃₁' : St s.heap s.heap.objs.size _ [(b, obb), (d, obd₁), (a, lob vs k)] h₃₁ := S₃₁
        have y1 := delD_len D₁ l₁
        clear S₃₁ S₃₀ S₂₀
        with_reducible refine wpAny_deleteEach_nil ?_
        with_reducible refine wpAny_execs_cons ?_
        (with_reducible refine wpAny_Assign_Subscript ?_ ?ka); (case ka => rfl)
        with_reducible refine wpAny_BinOp ?_
        (with_reducible refine' MethodCall_ ?_ ?ka); (case ka => rfl)
        (with_reducible refine' rd ?ka ?kb ?_ ?kc ?kd ?ke); (case ka => with_reducible assumption); (case kb => walk_at "look"); (case kc => rfl); (case kd => rfl); (case ke => decide)
        (with_reducible refine' dGM ?ka ?kb ?kc ?_); (case ka => with_reducible assumption); (case kb => walk_at "mem"); (case kc => with_reducible assumption)
        (with_reducible refine cwm ?_ ?ka ?kb); (case ka => rfl); (case kb => rfl)
        (with_reducible refine spliced_more ?_ ?ka); (case ka => rfl)
        (with_reducible refine' rd ?ka ?kb ?_ ?kc ?kd ?ke); (case ka => with_reducible assumption); (case kb => walk_at "look"); (case kc => rfl); (case kd => rfl); (case ke => decide)
        (with_reducible refine spliced_more ?_ ?ka); (case ka => rfl)
        (with_reducible refine cInt ?_); intro _ _
        with_reducible refine spliced_none ?_
        refine' dGetD (k := movedM l₁) ?S ?hm hD₁ hsm (fun t₃₂ u₃₂ => ?_)
        case S => with_reducible assumption
        case hm => walk_at "mem"
        (with_reducible refine' rd ?ka ?kb ?_ ?kc ?kd ?ke); (case ka => with_reducible assumption); (case kb => walk_at "look"); (case kc => rfl); (case kd => rfl); (case ke => decide)
        (with_reducible refine addI ?_); intro _ _
        (with_reducible refine' rd ?ka ?kb ?_ ?kc ?kd ?ke); (case ka => with_reducible assumption); (case kb => walk_at "look"); (case kc => rfl); (case kd => rfl); (case ke => decide)
        (with_reducible refine' rd ?ka ?kb ?_ ?kc ?kd ?ke); (case ka => with_reducible assumption); (case kb => walk_at "look"); (case kc => rfl); (case kd => rfl); (case ke => decide)
        refine' dSet (k := movedM l₁) (pre := [(b, obb)]) (post := [(a, lob vs k)]) S₃₁' hD₁ ?hz (fun h₃₃ t₃₃ obd₂ hD₂ S₃₃ => ?_)
        case hz => rw [sizeLine_eq]; omega
        have S₃₃' : St s.heap s.heap.objs.size _ [(b, obb), (d, obd₂), (a, lob vs k)] h₃₃ := S₃₃
        clear S₃₃ S₃₁'
        with_reducible refine wpAny_execs_cons ?_
        (with_reducible refine wpAny_Assign_Subscript ?_ ?ka); (case ka => rfl)
        with_reducible refine wpAny_BinOp ?_
        (with_reducible refine' MethodCall_ ?_ ?ka); (case ka => rfl)
        (with_reducible refine' rd ?ka ?kb ?_ ?kc ?kd ?ke); (case ka => with_reducible assumption); (case kb => walk_at "look"); (case kc => rfl); (case kd => rfl); (case ke => decide)
        (with_reducible refine' dGM ?ka ?kb ?kc ?_); (case ka => with_reducible assumption); (case kb => walk_at "mem"); (case kc => with_reducible assumption)
        (with_reducible refine cwm ?_ ?ka ?kb); (case ka => rfl); (case kb => rfl)
        (with_reducible refine spliced_more ?_ ?ka); (case ka => rfl)
        (with_reducible refine' rd ?ka ?kb ?_ ?kc ?kd ?ke); (case ka => with_reducible assumption); (case kb => walk_at "look"); (case kc => rfl); (case kd => rfl); (case ke => decide)
        (with_reducible refine spliced_more ?_ ?ka); (case ka => rfl)
        (with_reducible refine cInt ?_); intro _ _
        with_reducible refine spliced_none ?_
        refine' dGetD (k := bareM l₁) ?S ?hm hB hsmb (fun t₃₄ u₃₄ => ?_)
        case S => with_reducible assumption
        case hm => walk_at "mem"
        (with_reducible refine' rd ?ka ?kb ?_ ?kc ?kd ?ke); (case ka => with_reducible assumption); (case kb => walk_at "look"); (case kc => rfl); (case kd => rfl); (case ke => decide)
        (with_reducible refine addI ?_); intro _ _
        (with_reducible refine' rd ?ka ?kb ?_ ?kc ?kd ?ke); (case ka => with_reducible assumption); (case kb => walk_at "look"); (case kc => rfl); (case kd => rfl); (case ke => decide)
        (with_reducible refine' rd ?ka ?kb ?_ ?kc ?kd ?ke); (case ka => with_reducible assumption); (case kb => walk_at "look"); (case kc => rfl); (case kd => rfl); (case ke => decide)
        refine' dSet (k := bareM l₁) (pre := []) (post := [(d, obd₂), (a, lob vs k)]) S₃₃' hB ?hz (fun h₃₅ t₃₅ obb₁ hB₁ S₃₅ => ?_)
        case hz => rw [sizeLine_eq]; omega
        have S₃₅' : St s.heap s.heap.objs.size _ [(b, obb₁), (d, obd₂), (a, lob vs k)] h₃₅ := S₃₅
        clear S₃₅ S₃₃'
        cases hl₂ : leastM (putD (delD D₁ l₁) (movedM l₁) ((getV (delD D₁ l₁) (movedM l₁)).getD 0 + a₁)) with
        | none => rw [hl₂] at e; cases e
        | some l₂ =>
        rw [hl₂] at e
        dsimp only at e
        with_reducible refine wpAny_execs_cons ?_
        (with_reducible refine wpAny_Assign_Name ?_ ?ka); (case ka => rfl)
        (with_reducible refine Call_ ?_ ?ka); (case ka => rfl)
        (with_reducible refine' rdG ?ka ?kb ?kc ?_ ?kd ?ke ?kf); (case ka => with_reducible assumption); (case kb => with_reducible assumption); (case kc => first | with_reducible exact gl0 _ | with_reducible exact gl1 _ | with_reducible exact gl2 _ | with_reducible exact gl3 _ | with_reducible exact gl4 _ | with_reducible exact gl5 _ | with_reducible exact gl6 _ | with_reducible exact gl7 _ | with_reducible exact gl8 _ | with_reducible exact gl9 _); (case kd => rfl); (case ke => rfl); (case kf => decide)
        (with_reducible refine' cwf ?ka ?kb ?_ ?kc ?kd); (case ka => with_reducible assumption); (case kb => exact rfl); (case kc => rfl); (case kd => rfl)
        (with_reducible refine spliced_more ?_ ?ka); (case ka => rfl)
        (with_reducible refine' rd ?ka ?kb ?_ ?kc ?kd ?ke); (case ka => with_reducible assumption); (case kb => walk_at "look"); (case kc => rfl); (case kd => rfl); (case ke => decide)
        with_reducible refine spliced_none ?_
        (with_reducible refine' And.intro (inK ?ka ?kb) ?_); (case ka => with_reducible assumption); (case kb => with_reducible assumption)
        refine' least_call C S₃₅' ?hr ?hh ?hm hD₂ hsm hl₂ (fun h₃₆ t₃₆ tl₂ S₃₆ => ?_)
        case hr => show A.depth + 1 + 1 < _; omega
        case hh => exact hh
        case hm => walk_at "mem"
        (with_reducible refine' sto ?ka ?_ ?kb ?kc); (case ka => with_reducible assumption); (case kb => rfl); (case kc => rfl); intro _ _ _
        with_reducible refine wpAny_execs_nil ?_
        refine ⟨n, Nat.lt_succ_self _, ?_⟩
        rw [hI2]
        exact ⟨_, _, _, _, _, _, _, _, _, _, rfl, by assumption, hD₂, hB₁, e, by walk_at "look", by walk_at "look", by walk_at "look", by walk_at "look", by walk_at "look", by walk_at "look"⟩
      · rw [if_neg hel] at e ⊢
        cases e
        rw [hX2]
        exact ⟨obd, obb, _, _, _, _, _, rfl, S', hD, hB, by omega, by omega, m1, m2, m3, m4, m5, m6⟩
    · intro s' hx
      rw [hX2] at hx
      obtain ⟨obd, obb, h, t, tt, tl, m, rfl, S, hD, hB, hl', hDl, m1, m2, m3, m4, m5, m6⟩ := hx
      have hvl : vs.length = c.length := by have := hI.sizeZ; rw [List.size_toArray] at this; omega
      have hvz : vs.length ≤ sizeLine := by rw [sizeLine_eq]; omega
      with_reducible refine wpAny_execs_cons ?_
      (with_reducible refine wpAny_Assign_Name ?_ ?ka); (case ka => rfl)
      (with_reducible refine Call_ ?_ ?ka); (case ka => rfl)
      (with_reducible refine' rdB ?ka ?kb ?kc ?kd ?_ ?ke ?kf ?kg ?kh); (case ka => with_reducible assumption); (case kb => with_reducible assumption); (case kc => first | with_reducible exact gb0 _ | with_reducible exact gb1 _ | with_reducible exact gb2 _ | with_reducible exact gb3 _ | with_reducible exact gb4 _); (case kd => first | exact boot_len | exact boot_range | exact boot_enumerate | exact boot_tuple | exact boot_sum); (case ke => decide); (case kf => rfl); (case kg => rfl); (case kh => decide)
      (with_reducible refine callWith_builtin1 ?_ ?ka ?kb); (case ka => rfl); (case kb => rfl)
      (with_reducible refine spliced_more ?_ ?ka); (case ka => rfl)
      (with_reducible refine' rd ?ka ?kb ?_ ?kc ?kd ?ke); (case ka => with_reducible assumption); (case kb => walk_at "look"); (case kc => rfl); (case kd => rfl); (case ke => decide)
      with_reducible refine spliced_none ?_
      (with_reducible refine' lenL ?ka ?kb ?kc ?_); (case ka => with_reducible assumption); (case kb => walk_at "mem"); (case kc => walk_at "sz"); intro _ _
      (with_reducible refine' sto ?ka ?_ ?kb ?kc); (case ka => with_reducible assumption); (case kb => rfl); (case kc => rfl); intro _ _ _
      with_reducible refine wpAny_execs_cons ?_
      with_reducible refine wpAny_If ?_
      with_reducible refine isTrue_or ?_
      (with_reducible refine wpAny_isTrue_Compare1 ?_ ?ka); (case ka => with_unfolding_all rfl)
      (with_reducible refine Call_ ?_ ?ka); (case ka => rfl)
      (with_reducible refine' rdB ?ka ?kb ?kc ?kd ?_ ?ke ?kf ?kg ?kh); (case ka => with_reducible assumption); (case kb => with_reducible assumption); (case kc => first | with_reducible exact gb0 _ | with_reducible exact gb1 _ | with_reducible exact gb2 _ | with_reducible exact gb3 _ | with_reducible exact gb4 _); (case kd => first | exact boot_len | exact boot_range | exact boot_enumerate | exact boot_tuple | exact boot_sum); (case ke => decide); (case kf => rfl); (case kg => rfl); (case kh => decide)
      (with_reducible refine callWith_builtin1 ?_ ?ka ?kb); (case ka => rfl); (case kb => rfl)
      (with_reducible refine spliced_more ?_ ?ka); (case ka => rfl)
      (with_reducible refine' rd ?ka ?kb ?_ ?kc ?kd ?ke); (case ka => with_reducible assumption); (case kb => walk_at "look"); (case kc => rfl); (case kd => rfl); (case ke => decide)
      with_reducible refine spliced_none ?_
      refine' dLen ?S ?hm hD hsm ?hz (fun t₄₀ u₄₀ => ?_)
      case S => with_reducible assumption
      case hm => walk_at "mem"
      case hz => rw [sizeLine_eq]; omega
      by_cases h1 : (D'.length : Int) ≠ 1
      · rw [if_pos h1] at e; cases e
      rw [if_neg h1] at e
      by_cases h2 : ¬ (-100 ≤ Txt.count x (Str.ofString "\t") - c.length ∧ Txt.count x (Str.ofString "\t") - c.length ≤ 100)
      · rw [if_pos h2] at e; cases e
      rw [if_neg h2] at e
      cases hst : stripM (l' ++ Str.ofString " ") (x.length - Txt.count x (Str.ofString "\t") - c.length) with
      | none => rw [hst] at e; cases e
      | some r =>
      rw [hst] at e
      dsimp only at e
      by_cases h3 : (r != Txt.mul (Str.ofString "\t") (Txt.count x (Str.ofString "\t") - c.length) ++ Str.ofString " ") = true
      · rw [if_pos h3] at e; cases e
      rw [if_neg h3] at e
      cases hg : getV D' l' with
      | none => rw [hg] at e; cases e
      | some v =>
      rw [hg] at e
      dsimp only at e
      have hsp : (Str.ofString " ").length = 1 := by decide +kernel
      have htab : (Str.ofString "\t").length = 1 := by decide +kernel
      rw [← hvl] at hst h3 h2
      (with_reducible refine cInt ?_); intro _ _
      with_reducible refine neI ?_
      with_reducible refine trB ?_
      rw [if_neg (by simpa using h1)]
      with_reducible refine isTrue_or ?_
      (with_reducible refine wpAny_isTrue_Compare1 ?_ ?ka); (case ka => with_unfolding_all rfl)
      (with_reducible refine Call_ ?_ ?ka); (case ka => rfl)
      (with_reducible refine' rdG ?ka ?kb ?kc ?_ ?kd ?ke ?kf); (case ka => with_reducible assumption); (case kb => with_reducible assumption); (case kc => first | with_reducible exact gl0 _ | with_reducible exact gl1 _ | with_reducible exact gl2 _ | with_reducible exact gl3 _ | with_reducible exact gl4 _ | with_reducible exact gl5 _ | with_reducible exact gl6 _ | with_reducible exact gl7 _ | with_reducible exact gl8 _ | with_reducible exact gl9 _); (case kd => rfl); (case ke => rfl); (case kf => decide)
      (with_reducible refine' cwf ?ka ?kb ?_ ?kc ?kd); (case ka => with_reducible assumption); (case kb => exact rfl); (case kc => rfl); (case kd => rfl)
      (with_reducible refine spliced_more ?_ ?ka); (case ka => rfl)
      with_reducible refine wpAny_BinOp ?_
      (with_reducible refine' rd ?ka ?kb ?_ ?kc ?kd ?ke); (case ka => with_reducible assumption); (case kb => walk_at "look"); (case kc => rfl); (case kd => rfl); (case ke => decide)
      (with_reducible refine cStr ?_); intro _ _
      (with_reducible refine addS ?ka ?_); (case ka => rw [sizeLine_eq]; (try simp only [Str.length_append]); omega); intro _ _
      (with_reducible refine spliced_more ?_ ?ka); (case ka => rfl)
      with_reducible refine wpAny_BinOp ?_
      with_reducible refine wpAny_BinOp ?_
      (with_reducible refine Call_ ?_ ?ka); (case ka => rfl)
      (with_reducible refine' rdB ?ka ?kb ?kc ?kd ?_ ?ke ?kf ?kg ?kh); (case ka => with_reducible assumption); (case kb => with_reducible assumption); (case kc => first | with_reducible exact gb0 _ | with_reducible exact gb1 _ | with_reducible exact gb2 _ | with_reducible exact gb3 _ | with_reducible exact gb4 _); (case kd => first | exact boot_len | exact boot_range | exact boot_enumerate | exact boot_tuple | exact boot_sum); (case ke => decide); (case kf => rfl); (case kg => rfl); (case kh => decide)
      (with_reducible refine callWith_builtin1 ?_ ?ka ?kb); (case ka => rfl); (case kb => rfl)
      (with_reducible refine spliced_more ?_ ?ka); (case ka => rfl)
      (with_reducible refine' rd ?ka ?kb ?_ ?kc ?kd ?ke); (case ka => with_reducible assumption); (case kb => walk_at "look"); (case kc => rfl); (case kd => rfl); (case ke => decide)
      with_reducible refine spliced_none ?_
      (with_reducible refine lenS ?ka ?_); (case ka => with_reducible assumption); intro _ _
      (with_reducible refine' rd ?ka ?kb ?_ ?kc ?kd ?ke); (case ka => with_reducible assumption); (case kb => walk_at "look"); (case kc => rfl); (case kd => rfl); (case ke => decide)
      (with_reducible refine subI ?_); intro _ _
      (with_reducible refine' rd ?ka ?kb ?_ ?kc ?kd ?ke); (case ka => with_reducible assumption); (case kb => walk_at "look"); (case kc => rfl); (case kd => rfl); (case ke => decide)
      (with_reducible refine subI ?_); intro _ _
      with_reducible refine spliced_none ?_
      (with_reducible refine' And.intro (inK ?ka ?kb) ?_); (case ka => with_reducible assumption); (case kb => with_reducible assumption)
      refine' strip_call C ?S ?hr hst (fun h₄₁ t₄₁ tk₄₁ S₄₁ => ?_)
      case S => with_reducible assumption
      case hr => show A.depth + 1 < _; omega
      with_reducible refine wpAny_BinOp ?_
      with_reducible refine wpAny_BinOp ?_
      (with_reducible refine cStr ?_); intro _ _
      with_reducible refine wpAny_BinOp ?_
      (with_reducible refine' rd ?ka ?kb ?_ ?kc ?kd ?ke); (case ka => with_reducible assumption); (case kb => walk_at "look"); (case kc => rfl); (case kd => rfl); (case ke => decide)
      (with_reducible refine' rd ?ka ?kb ?_ ?kc ?kd ?ke); (case ka => with_reducible assumption); (case kb => walk_at "look"); (case kc => rfl); (case kd => rfl); (case ke => decide)
      (with_reducible refine subI ?_); intro _ _
      have h2' : -100 ≤ Txt.count x (Str.ofString "\t") - (vs.length : Int) ∧ Txt.count x (Str.ofString "\t") - (vs.length : Int) ≤ 100 := Decidable.of_not_not h2
      have hml := mul_len htab h2'.2
      refine mulS (mulOk1 htab h2'.1 h2'.2) (fun t₄₂ u₄₂ => ?_)
      (with_reducible refine cStr ?_); intro _ _
      (with_reducible refine addS ?ka ?_); (case ka => rw [sizeLine_eq]; (try simp only [Str.length_append]); omega); intro _ _
      with_reducible refine neS ?_
      with_reducible refine trB ?_
      rw [if_neg h3]
      with_reducible refine isTrue_or_nil ?_
      with_reducible refine itF ?_
      with_reducible refine wpAny_execs_nil ?_
      with_reducible refine wpAny_execs_cons ?_
      (with_reducible refine wpAny_Expr ?_ ?ka ?kb); (case ka => rfl); (case kb => rfl)
      (with_reducible refine' MethodCall_ ?_ ?ka); (case ka => rfl)
      (with_reducible refine' rd ?ka ?kb ?_ ?kc ?kd ?ke); (case ka => with_reducible assumption); (case kb => walk_at "look"); (case kc => rfl); (case kd => rfl); (case ke => decide)
      refine' apM ?S ?hm ?_
      case S => with_reducible assumption
      case hm => walk_at "mem"
      (with_reducible refine cwm ?_ ?ka ?kb); (case ka => rfl); (case kb => rfl)
      (with_reducible refine spliced_more ?_ ?ka); (case ka => rfl)
      with_reducible refine Subscript_ ?_
      (with_reducible refine' rd ?ka ?kb ?_ ?kc ?kd ?ke); (case ka => with_reducible assumption); (case kb => walk_at "look"); (case kc => rfl); (case kd => rfl); (case ke => decide)
      (with_reducible refine' rd ?ka ?kb ?_ ?kc ?kd ?ke); (case ka => with_reducible assumption); (case kb => walk_at "look"); (case kc => rfl); (case kd => rfl); (case ke => decide)
      refine' dGet ?S ?hm hD hg (fun t₄₃ u₄₃ => ?_)
      case S => with_reducible assumption
      case hm => walk_at "mem"
      with_reducible refine spliced_none ?_
      refine apL (pre := [(b, obb), (d, obd)]) (post := []) S₄₁ hvz (fun h₄₄ S₄₄ => ?_)
      have S₄₅ : St s.heap s.heap.objs.size _ [(b, obb), (a, lob (vs ++ [.int v u₄₃]) (k + 1))] h₄₄ := S₄₄.sub (by walk_at "subl")
      clear S₄₄ S₄₁ S
      with_reducible refine wpAny_execs_cons ?_
      (with_reducible refine wpAny_Assign_Name ?_ ?ka); (case ka => rfl)
      (with_reducible refine' rd ?ka ?kb ?_ ?kc ?kd ?ke); (case ka => with_reducible assumption); (case kb => walk_at "look"); (case kc => rfl); (case kd => rfl); (case ke => decide)
      (with_reducible refine' sto ?ka ?_ ?kb ?kc); (case ka => with_reducible assumption); (case kb => rfl); (case kc => rfl); intro _ _ _
      with_reducible refine wpAny_execs_nil ?_
      refine ⟨n, Nat.lt_succ_self _, ?_⟩
      rw [hI1]
      exact ⟨B', c ++ [v], _, _, obb, b, _, _, _, _, rfl, by assumption, hB, hsmb, hI.append (.cons _ _ .nil), e, by walk_at "look", by walk_at "look", by walk_at "look", by walk_at "look"⟩
  · intro s' hx
    rw [hX1] at hx
    obtain ⟨vs, k, d, ob, h, t, m, rfl, S, hI, m1⟩ := hx
    with_reducible refine wpAny_execs_cons ?_
    with_reducible refine wpAny_Return_some ?_
    (with_reducible refine' rd ?ka ?kb ?_ ?kc ?kd ?ke); (case ka => with_reducible assumption); (case kb => walk_at "look"); (case kc => rfl); (case kd => rfl); (case ke => decide)
    exact q _ _ _ _ _ S.F.keep fa' (S.mem (.tail _ (.head _))) hI
end
section
variable {prog : Program} {w : World} {A : Around} {E E' : Value → Shared → Prop} {h₀ h : Heap} {L : Addr} {m : Str → Option Value} {pre post os : List (Addr × Obj)} {gs : Array GenState} {dr : Drawn} {t : Nat} {o : OsState} {pos : Pos} {env : Env} {Q : Value → Shared → Prop} {R : Value → Shared → Prop}
theorem rngIt {r : Addr} {a b c : Int} {N : Nat} {t1 t2 t3 : Tok} (S : St h₀ L m ((r, { cls := .type "range", data := .fields #[.int a t1, .int b t2, .int c t3] }) :: os) h) (hs : Builtin.Range.small a b c = true) (hN : Builtin.Range.rangeSize a b c = N)
    (q : ∀ I oI h', St h₀ L m ((I, oI) :: os) h' → IsRangeIter h' I (a + (0 : Nat) * c) ((N : Int) - (0 : Nat)) c → R (.ref I) ⟨h', gs, dr, t, o⟩) :
    wpAny (model prog w) A (pyIter (.ref r)) R E ⟨h, gs, dr, t, o⟩ := by
  have S' := S.push { cls := .type "range_iterator", data := .fields #[rawInt a, rawInt (Builtin.Range.rangeSize a b c), rawInt c] }
  refine wpAny_pyIter_range (s := ⟨h, gs, dr, t, o⟩) (S.mem (.head _)) hs (q _ _ _ (S'.sub (.cons_cons _ (.cons _ (.refl _)))) ?_)
  have e := S'.mem (.head _)
  show _ = some _
  rw [e, hN]
  simp
theorem rng1 {b : Int} {u : Tok} (S : St h₀ L m os h) (h1 : 0 ≤ b) (h2 : b < 2 ^ 62)
    (q : ∀ I oI h' t', St h₀ L m ((I, oI) :: os) h' → IsRangeIter h' I (0 + (0 : Nat) * 1) ((b.toNat : Int) - (0 : Nat)) 1 → R (.ref I) ⟨h', gs, dr, t', o⟩) :
    wpAny (model prog w) A (call (.type "range") [.int b u]) (fun x s₁ => wpAny (model prog w) A (pyIter x) R E s₁) E' ⟨h, gs, dr, t, o⟩ := by
  refine call_range_1 (s := ⟨h, gs, dr, t, o⟩) ?_
  refine rngIt (S.push _) (small_one (by omega) (by omega) (by omega) h2) ?_ (fun I oI h' S' i => q I oI h' _ S' i)
  rw [rangeSize_one]; split <;> omega
theorem rng3 {a b : Int} {c : Int} {t1 t2 t3 : Tok} {N : Nat} (S : St h₀ L m os h) (hc : c ≠ 0) (hs : Builtin.Range.small a b c = true) (hN : Builtin.Range.rangeSize a b c = N) (hp : c.natAbs < 1073741824)
    (q : ∀ I oI h' t', St h₀ L m ((I, oI) :: os) h' → IsRangeIter h' I (a + (0 : Nat) * c) ((N : Int) - (0 : Nat)) c → R (.ref I) ⟨h', gs, dr, t', o⟩) :
    wpAny (model prog w) A (call (.type "range") [.int a t1, .int b t2, .int c t3]) (fun x s₁ => wpAny (model prog w) A (pyIter x) R E s₁) E' ⟨h, gs, dr, t, o⟩ := by
  refine call_range_3 (s := ⟨h, gs, dr, t, o⟩) hc ?_ (Or.inl (PyProof.noPylong_small hp))
  exact rngIt (S.push _) hs hN (fun I oI h' S' i => q I oI h' _ S' i)
end
noncomputable def togGo (c : List Int) (tabs point : Int) : Nat → Nat → Int → Int → Option Int
  | 0, _, _, v => some v
  | n + 1, i, f, v => if Builtin.Int.intBits f ≤ 64 then togGo c tabs point n (i + 1) (f * (point - i)) (if tabs - i < c.length then v + c.getD (tabs - i).toNat 0 * f else v) else none
noncomputable def togM (c : List Int) (tabs point : Int) : Option Int := if 0 ≤ tabs ∧ tabs ≤ 100 ∧ c.length ≤ 100 then togGo c tabs point (tabs + 1).toNat 0 1 0 else none
theorem ints_at {vs : List Value} {ns : List Int} (h : IntsAre vs ns) {i : Nat} (hi : i < ns.length) : ∃ t, vs[i]? = some (.int (ns.getD i 0) t) := by
  have hl : vs.length = ns.length := by have := h.sizeZ; rw [List.size_toArray] at this; omega
  have e : vs[i]? = some vs[i] := List.getElem?_eq_getElem (by omega)
  obtain ⟨t, e'⟩ := h.int_at i _ e
  exact ⟨t, by rw [e, e']⟩
section
variable {prog : Program} {w : World} {A : Around} {E : Value → Shared → Prop} {h₀ h : Heap} {L : Addr} {m : Str → Option Value} {pre post os : List (Addr × Obj)} {gs : Array GenState} {dr : Drawn} {t : Nat} {o : OsState} {pos : Pos} {env : Env} {Q : Value → Shared → Prop} {vs : List Value} {l : Addr} {n : Nat} {u : Tok}
/-- a list that stood before the call -/
theorem lenB (S : St h₀ L m os h) (hm : h₀.get? l = some (lob vs n)) (hz : vs.length ≤ sizeLine) (q : ∀ t' u, Q (.int vs.length u) ⟨h, gs, dr, t', o⟩) : wpAny (model prog w) A (call (.builtin "len") [.ref l]) Q E ⟨h, gs, dr, t, o⟩ :=
  call_len_list (s := ⟨h, gs, dr, t, o⟩) (items := vs.toArray) ⟨_, S.F.keep _ _ hm, rfl, n, rfl⟩ (by rw [sizeLine_eq] at hz; rw [List.size_toArray]; omega) (by have := q (t + 1 + 1) (t + 1); simpa using this)
theorem itemB {value slice : Expr} {k : Int} {z : Value} (S : St h₀ L m os h) (hm : h₀.get? l = some (lob vs n)) (h0 : 0 ≤ k) (hz : vs.length ≤ sizeLine) (hx : vs[k.toNat]? = some z) (q : Q z ⟨h, gs, dr, t, o⟩)
    (hs : subscripted slice false (.ref l) (.int k u) = operate [.ref l, .int k u] (getItem (.ref l) (.int k u)) := by with_unfolding_all rfl) :
    wpAny (model prog w) A (subscriptTail value slice (.ref l) (.int k u)) Q E ⟨h, gs, dr, t, o⟩ := by
  have hl : h.IsList l vs.toArray := ⟨_, S.F.keep _ _ hm, rfl, n, rfl⟩
  have hlt : k.toNat < vs.length := by
    rcases Nat.lt_or_ge k.toNat vs.length with e | e
    · exact e
    · rw [List.getElem?_eq_none e] at hx; cases hx
  rw [sizeLine_eq] at hz
  exact tail_any (s := ⟨h, gs, dr, t, o⟩) hl.typeIs slot_list_getitem.lookup (wpAny_getItem_list (s := ⟨h, gs, dr, t, o⟩) hl h0 (by omega) (by simpa using hx) q) hs
theorem tog_spec {s : Shared} {c : List Int} {tabs point r : Int} {t1 t2 : Tok} {a : Addr} (C : Cx w s.heap) (hroom : A.depth < recursionLimit) (hh : A.handled = none) (ha : s.heap.get? a = some (lob vs n)) (hI : IntsAre vs c) (hr : togM c tabs point = some r)
    (q : ∀ h' t' tk, s.heap.StaysIn h' → Q (.int r tk) ⟨h', s.gens, s.drawn, t', s.os⟩) :
    wpAny (model prog w) A (call (.ref 143) [.ref a, .int tabs t1, .int point t2]) Q E s := by
  unfold togM at hr
  by_cases hc : 0 ≤ tabs ∧ tabs ≤ 100 ∧ c.length ≤ 100
  rotate_left
  · rw [if_neg hc] at hr; cases hr
  rw [if_pos hc] at hr
  have hvl : vs.length = c.length := by have := hI.sizeZ; rw [List.size_toArray] at this; omega
  have hvz : vs.length ≤ sizeLine := by rw [sizeLine_eq]; omega
  refine call_fn (binds := [(Str.ofString "counts", .ref a), (Str.ofString "tabs", .int tabs t1), (Str.ofString "point", .int point t2)]) C rfl rfl hroom rfl rfl (fun h₁ t S => ?_)
  with_reducible refine wpAny_execs_cons ?_
  (with_reducible refine wpAny_Assign_Name ?_ ?ka); (case ka => rfl)
  (with_reducible refine cInt ?_); intro _ _
  (with_reducible refine' sto ?ka ?_ ?kb ?kc); (case ka => with_reducible assumption); (case kb => rfl); (case kc => rfl); intro _ _ _
  with_reducible refine wpAny_execs_cons ?_
  (with_reducible refine wpAny_Assign_Name ?_ ?ka); (case ka => rfl)
  (with_reducible refine cInt ?_); intro _ _
  (with_reducible refine' sto ?ka ?_ ?kb ?kc); (case ka => with_reducible assumption); (case kb => rfl); (case kc => rfl); intro _ _ _
  with_reducible refine wpAny_execs_cons ?_
  (with_reducible refine' wpAny_For ?_ ?ka); (case ka => intro _; rfl)
  (with_reducible refine Call_ ?_ ?ka); (case ka => rfl)
  (with_reducible refine' rdB ?ka ?kb ?kc ?kd ?_ ?ke ?kf ?kg ?kh); (case ka => with_reducible assumption); (case kb => with_reducible assumption); (case kc => first | with_reducible exact gb0 _ | with_reducible exact gb1 _ | with_reducible exact gb2 _ | with_reducible exact gb3 _ | with_reducible exact gb4 _); (case kd => first | exact boot_len | exact boot_range | exact boot_enumerate | exact boot_tuple | exact boot_sum); (case ke => decide); (case kf => rfl); (case kg => rfl); (case kh => decide)
  (with_reducible refine callWith_type1 ?_ ?ka ?kb); (case ka => rfl); (case kb => rfl)
  (with_reducible refine spliced_more ?_ ?ka); (case ka => rfl)
  with_reducible refine wpAny_BinOp ?_
  (with_reducible refine' rd ?ka ?kb ?_ ?kc ?kd ?ke); (case ka => with_reducible assumption); (case kb => walk_at "look"); (case kc => rfl); (case kd => rfl); (case ke => decide)
  (with_reducible refine cInt ?_); intro _ _
  (with_reducible refine addI ?_); intro _ _
  with_reducible refine spliced_none ?_
  refine' rng1 ?S (by omega) (by omega) (fun I oI h₂ t₂ S₂ wt => ?_)
  case S => with_reducible assumption
  refine for_loop (con := []) (os := []) (Walks.range (by exact hh) I 0 1 (tabs + 1).toNat) (fun i h wt => ⟨_, wt⟩) (fun b hb => .inl (List.mem_singleton.mp hb))
    (fun i m os => os = [] ∧ ∃ f v tf tv, togGo c tabs point ((tabs + 1).toNat - i) i f v = some r ∧ m (Str.ofString "falling") = some (.int f tf) ∧ m (Str.ofString "value") = some (.int v tv) ∧ m (Str.ofString "counts") = some (.ref a) ∧ m (Str.ofString "tabs") = some (.int tabs t1) ∧ m (Str.ofString "point") = some (.int point t2))
    ?_ ?_ S₂ wt ⟨rfl, _, _, _, _, hr, by walk_at "look", by walk_at "look", by walk_at "look", by walk_at "look", by walk_at "look"⟩
  · rintro i m os v oI h t hi ⟨tk, rfl⟩ ⟨rfl, f, v, tf, tv, e, m1, m2, m3, m4, m5⟩ S
    have ei : (0 : Int) + (i : Int) * 1 = i := by omega
    rw [ei] at S
    obtain ⟨k, hk⟩ : ∃ k, (tabs + 1).toNat - i = k + 1 := ⟨(tabs + 1).toNat - i - 1, by omega⟩
    have hk' : (tabs + 1).toNat - (i + 1) = k := by omega
    rw [hk] at e
    unfold togGo at e
    by_cases hb : Builtin.Int.intBits f ≤ 64
    rotate_left
    · rw [if_neg hb] at e; cases e
    rw [if_pos hb] at e
    with_reducible refine wpAny_execs_cons ?_
    with_reducible refine wpAny_If ?_
    (with_reducible refine wpAny_isTrue_Compare1 ?_ ?ka); (case ka => with_unfolding_all rfl)
    with_reducible refine wpAny_BinOp ?_
    (with_reducible refine' rd ?ka ?kb ?_ ?kc ?kd ?ke); (case ka => with_reducible assumption); (case kb => walk_at "look"); (case kc => rfl); (case kd => rfl); (case ke => decide)
    (with_reducible refine' rd ?ka ?kb ?_ ?kc ?kd ?ke); (case ka => with_reducible assumption); (case kb => walk_at "look"); (case kc => rfl); (case kd => rfl); (case ke => decide)
    (with_reducible refine subI ?_); intro _ _
    (with_reducible refine Call_ ?_ ?ka); (case ka => rfl)
    (with_reducible refine' rdB ?ka ?kb ?kc ?kd ?_ ?ke ?kf ?kg ?kh); (case ka => with_reducible assumption); (case kb => with_reducible assumption); (case kc => first | with_reducible exact gb0 _ | with_reducible exact gb1 _ | with_reducible exact gb2 _ | with_reducible exact gb3 _ | with_reducible exact gb4 _); (case kd => first | exact boot_len | exact boot_range | exact boot_enumerate | exact boot_tuple | exact boot_sum); (case ke => decide); (case kf => rfl); (case kg => rfl); (case kh => decide)
    (with_reducible refine callWith_builtin1 ?_ ?ka ?kb); (case ka => rfl); (case kb => rfl)
    (with_reducible refine spliced_more ?_ ?ka); (case ka => rfl)
    (with_reducible refine' rd ?ka ?kb ?_ ?kc ?kd ?ke); (case ka => with_reducible assumption); (case kb => walk_at "look"); (case kc => rfl); (case kd => rfl); (case ke => decide)
    with_reducible refine spliced_none ?_
    refine' lenB ?S ha hvz (fun t₃ u₃ => ?_)
    case S => with_reducible assumption
    with_reducible refine ltI ?_
    with_reducible refine trB ?_
    rw [hvl]
    by_cases hlt : tabs - (i : Int) < c.length
    · rw [if_pos (by simpa using hlt)]
      rw [if_pos hlt] at e
      obtain ⟨tz, hz⟩ := ints_at hI (i := (tabs - (i : Int)).toNat) (by omega)
      with_reducible refine wpAny_execs_cons ?_
      with_reducible refine wpAny_AugAssign_Name ?_
      (with_reducible refine' rdn ?ka ?kb ?_ ?kc ?kd); (case ka => with_reducible assumption); (case kb => walk_at "look"); (case kc => rfl); (case kd => rfl)
      with_reducible refine wpAny_BinOp ?_
      with_reducible refine Subscript_ ?_
      (with_reducible refine' rd ?ka ?kb ?_ ?kc ?kd ?ke); (case ka => with_reducible assumption); (case kb => walk_at "look"); (case kc => rfl); (case kd => rfl); (case ke => decide)
      with_reducible refine wpAny_BinOp ?_
      (with_reducible refine' rd ?ka ?kb ?_ ?kc ?kd ?ke); (case ka => with_reducible assumption); (case kb => walk_at "look"); (case kc => rfl); (case kd => rfl); (case ke => decide)
      (with_reducible refine' rd ?ka ?kb ?_ ?kc ?kd ?ke); (case ka => with_reducible assumption); (case kb => walk_at "look"); (case kc => rfl); (case kd => rfl); (case ke => decide)
      (with_reducible refine subI ?_); intro _ _
      refine' itemB ?S ha (by omega) hvz hz ?_
      case S => with_reducible assumption
      (with_reducible refine' rd ?ka ?kb ?_ ?kc ?kd ?ke); (case ka => with_reducible assumption); (case kb => walk_at "look"); (case kc => rfl); (case kd => rfl); (case ke => decide)
      refine mulI (IntMulOk.of_right hb) (fun t₄ u₄ => ?_)
      (with_reducible refine iaddI ?_); intro _ _
      (with_reducible refine' sto ?ka ?_ ?kb ?kc); (case ka => with_reducible assumption); (case kb => rfl); (case kc => rfl); intro _ _ _
      with_reducible refine wpAny_execs_nil ?_
      with_reducible refine wpAny_execs_cons ?_
      with_reducible refine wpAny_AugAssign_Name ?_
      (with_reducible refine' rdn ?ka ?kb ?_ ?kc ?kd); (case ka => with_reducible assumption); (case kb => walk_at "look"); (case kc => rfl); (case kd => rfl)
      with_reducible refine wpAny_BinOp ?_
      (with_reducible refine' rd ?ka ?kb ?_ ?kc ?kd ?ke); (case ka => with_reducible assumption); (case kb => walk_at "look"); (case kc => rfl); (case kd => rfl); (case ke => decide)
      (with_reducible refine' rd ?ka ?kb ?_ ?kc ?kd ?ke); (case ka => with_reducible assumption); (case kb => walk_at "look"); (case kc => rfl); (case kd => rfl); (case ke => decide)
      (with_reducible refine subI ?_); intro _ _
      refine imulI (IntMulOk.of_left hb) (fun t₅ u₅ => ?_)
      (with_reducible refine' sto ?ka ?_ ?kb ?kc); (case ka => with_reducible assumption); (case kb => rfl); (case kc => rfl); intro _ _ _
      with_reducible refine wpAny_execs_nil ?_
      exact ⟨_, [], _, _, rfl, by assumption, rfl, _, _, _, _, by rw [hk']; exact e, by walk_at "look", by walk_at "look", by walk_at "look", by walk_at "look", by walk_at "look"⟩
    · rw [if_neg (by simpa using hlt)]
      rw [if_neg hlt] at e
      with_reducible refine wpAny_execs_nil ?_
      with_reducible refine wpAny_execs_cons ?_
      with_reducible refine wpAny_AugAssign_Name ?_
      (with_reducible refine' rdn ?ka ?kb ?_ ?kc ?kd); (case ka => with_reducible assumption); (case kb => walk_at "look"); (case kc => rfl); (case kd => rfl)
      with_reducible refine wpAny_BinOp ?_
      (with_reducible refine' rd ?ka ?kb ?_ ?kc ?kd ?ke); (case ka => with_reducible assumption); (case kb => walk_at "look"); (case kc => rfl); (case kd => rfl); (case ke => decide)
      (with_reducible refine' rd ?ka ?kb ?_ ?kc ?kd ?ke); (case ka => with_reducible assumption); (case kb => walk_at "look"); (case kc => rfl); (case kd => rfl); (case ke => decide)
      (with_reducible refine subI ?_); intro _ _
      refine imulI (IntMulOk.of_left hb) (fun t₅ u₅ => ?_)
      (with_reducible refine' sto ?ka ?_ ?kb ?kc); (case ka => with_reducible assumption); (case kb => rfl); (case kc => rfl); intro _ _ _
      with_reducible refine wpAny_execs_nil ?_
      exact ⟨_, [], _, _, rfl, by assumption, rfl, _, _, _, _, by rw [hk']; exact e, by walk_at "look", by walk_at "look", by walk_at "look", by walk_at "look", by walk_at "look"⟩
  · rintro m os h t ⟨rfl, f, v, tf, tv, e, m1, m2, m3, m4, m5⟩ S
    rw [Nat.sub_self] at e
    cases e
    with_reducible refine wpAny_execs_cons ?_
    with_reducible refine wpAny_Return_some ?_
    (with_reducible refine' rd ?ka ?kb ?_ ?kc ?kd ?ke); (case ka => with_reducible assumption); (case kb => walk_at "look"); (case kc => rfl); (case kd => rfl); (case ke => decide)
    exact q _ _ _ S.F.keep
end
noncomputable def twinC (w : Str) (s m e : Int) : Option Str :=
  if (Txt.slice w (some s) (some m) != Txt.slice w (some m) (some e)) = true then
    if (Txt.count (Txt.slice w (some s) (some m)) (Str.ofString "\t") * 2 == ((Txt.slice w (some s) (some m)).length : Int)) = true then
      if (Txt.count (Txt.slice w (some m) (some e)) (Str.ofString "\t") * 2 == ((Txt.slice w (some m) (some e)).length : Int)) = true then
        some (Txt.slice w none (some s) ++ Txt.slice w (some m) (some e) ++ Txt.slice w (some s) (some m) ++ Txt.slice w (some e) none)
      else none
    else none
  else none
noncomputable def rsz (a b : Int) : Nat := if a < b then ((b - a - 1) / 2 + 1).toNat else 0
noncomputable def twinE (w : Str) (s m : Int) : Option Str := (List.range (rsz (m + 2) (w.length + 1))).findSome? fun (i : Nat) => twinC w s m (m + 2 + i * 2)
noncomputable def twinMid (w : Str) (s : Int) : Option Str := (List.range (rsz (s + 2) w.length)).findSome? fun (i : Nat) => twinE w s (s + 2 + i * 2)
noncomputable def twinO (w : Str) : Option Str := (List.range w.length).findSome? fun (i : Nat) => twinMid w (0 + i * 1)
noncomputable def twinM (w : Str) : Str := (twinO w).getD w
theorem fs_none {α : Type} {n : Nat} {f : Nat → Option α} (h : ∀ j, j < n → f j = none) : (List.range n).findSome? f = none := by
  rw [List.findSome?_eq_none_iff]; intro x hx; exact h x (List.mem_range.mp hx)
theorem fs_some {α : Type} {n i : Nat} {f : Nat → Option α} {r : α} (h : ∀ j, j < i → f j = none) (hi : i < n) (e : f i = some r) : (List.range n).findSome? f = some r := by
  have : List.range n = List.range i ++ (i :: List.range' (i + 1) (n - i - 1)) := by
    rw [List.range_eq_range', List.range_eq_range']
    have h1 : n = i + (n - i) := by omega
    have h2 : n - i = (n - i - 1) + 1 := by omega
    conv => lhs; rw [h1, ← List.range'_append_1, h2, List.range'_succ]
    simp
  rw [this, List.findSome?_append, fs_none h]
  simp [List.findSome?_cons, e]
theorem rsz_eq (a b : Int) : Builtin.Range.rangeSize a b 2 = (rsz a b : Int) := by
  unfold Builtin.Range.rangeSize rsz
  split
  · split
    · rename_i h; omega
    · rfl
  · rename_i h; omega
theorem small_two {a b : Int} (ha : 0 ≤ a) (ha' : a < 1000) (hb : 0 ≤ b) (hb' : b < 1000) : Builtin.Range.small a b 2 = true := by
  unfold Builtin.Range.small
  rw [rsz_eq]
  unfold rsz
  simp only [Builtin.Range.rangeFitsLong, Bool.and_eq_true, Bool.or_eq_true, decide_eq_true_eq, beq_iff_eq, show (2 : Int) > 0 by decide, if_true]
  split <;> omega
section
variable {prog : Program} {w : World} {A : Around} {E : Value → Shared → Prop} {s : Shared} {Q : Value → Shared → Prop}
theorem twin_spec {x : Str} {tx : Tok} (C : Cx w s.heap) (hroom : A.depth < recursionLimit) (hh : A.handled = none) (hx : x.length ≤ 100)
    (q : ∀ h' t' tk, s.heap.StaysIn h' → Q (.str (twinM x) tk) ⟨h', s.gens, s.drawn, t', s.os⟩) :
    wpAny (model prog w) A (call (.ref 115) [.str x tx]) Q E s := by
  have hx' : x.length ≤ sizeLine := by rw [sizeLine_eq]; omega
  refine call_fn (binds := [(Str.ofString "word", .str x tx)]) C rfl rfl hroom rfl rfl (fun h₁ t S => ?_)
  with_reducible refine wpAny_execs_cons ?_
  (with_reducible refine' wpAny_For ?_ ?ka); (case ka => intro _; rfl)
  (with_reducible refine Call_ ?_ ?ka); (case ka => rfl)
  (with_reducible refine' rdB ?ka ?kb ?kc ?kd ?_ ?ke ?kf ?kg ?kh); (case ka => with_reducible assumption); (case kb => with_reducible assumption); (case kc => first | with_reducible exact gb0 _ | with_reducible exact gb1 _ | with_reducible exact gb2 _ | with_reducible exact gb3 _ | with_reducible exact gb4 _); (case kd => first | exact boot_len | exact boot_range | exact boot_enumerate | exact boot_tuple | exact boot_sum); (case ke => decide); (case kf => rfl); (case kg => rfl); (case kh => decide)
  (with_reducible refine callWith_type1 ?_ ?ka ?kb); (case ka => rfl); (case kb => rfl)
  (with_reducible refine spliced_more ?_ ?ka); (case ka => rfl)
  (with_reducible refine Call_ ?_ ?ka); (case ka => rfl)
  (with_reducible refine' rdB ?ka ?kb ?kc ?kd ?_ ?ke ?kf ?kg ?kh); (case ka => with_reducible assumption); (case kb => with_reducible assumption); (case kc => first | with_reducible exact gb0 _ | with_reducible exact gb1 _ | with_reducible exact gb2 _ | with_reducible exact gb3 _ | with_reducible exact gb4 _); (case kd => first | exact boot_len | exact boot_range | exact boot_enumerate | exact boot_tuple | exact boot_sum); (case ke => decide); (case kf => rfl); (case kg => rfl); (case kh => decide)
  (with_reducible refine callWith_builtin1 ?_ ?ka ?kb); (case ka => rfl); (case kb => rfl)
  (with_reducible refine spliced_more ?_ ?ka); (case ka => rfl)
  (with_reducible refine' rd ?ka ?kb ?_ ?kc ?kd ?ke); (case ka => with_reducible assumption); (case kb => walk_at "look"); (case kc => rfl); (case kd => rfl); (case ke => decide)
  with_reducible refine spliced_none ?_
  (with_reducible refine lenS ?ka ?_); (case ka => with_reducible assumption); intro _ _
  with_reducible refine spliced_none ?_
  refine' rng1 ?S (by omega) (by omega) (fun I oI h₂ t₂ S₂ wt => ?_)
  case S => with_reducible assumption
  obtain ⟨J1, hJ1⟩ : ∃ J : Nat → (Str → Option Value) → List (Addr × Obj) → Prop, J = fun i m os => os = [] ∧ m (Str.ofString "word") = some (.str x tx) ∧ ∀ j, j < i → twinMid x (0 + (j : Nat) * 1) = none := ⟨_, rfl⟩
  refine for_loop (con := []) (os := []) (Walks.range (by exact hh) I 0 1 x.length) (fun i h wt => ⟨_, wt⟩) (fun b hb => .inl (List.mem_singleton.mp hb))
    J1
    ?_ ?_ S₂ (by simpa using wt) (by subst hJ1; exact ⟨rfl, by walk_at "look", fun j hj => absurd hj (Nat.not_lt_zero _)⟩)
  · rintro i m os v oI h t hi ⟨tk, rfl⟩ hj S
    rw [hJ1] at hj
    obtain ⟨rfl, m1, j1⟩ := hj
    with_reducible refine wpAny_execs_cons ?_
    (with_reducible refine' wpAny_For ?_ ?ka); (case ka => intro _; rfl)
    (with_reducible refine Call_ ?_ ?ka); (case ka => rfl)
    (with_reducible refine' rdB ?ka ?kb ?kc ?kd ?_ ?ke ?kf ?kg ?kh); (case ka => with_reducible assumption); (case kb => with_reducible assumption); (case kc => first | with_reducible exact gb0 _ | with_reducible exact gb1 _ | with_reducible exact gb2 _ | with_reducible exact gb3 _ | with_reducible exact gb4 _); (case kd => first | exact boot_len | exact boot_range | exact boot_enumerate | exact boot_tuple | exact boot_sum); (case ke => decide); (case kf => rfl); (case kg => rfl); (case kh => decide)
    (with_reducible refine callWith_type1 ?_ ?ka ?kb); (case ka => rfl); (case kb => rfl)
    (with_reducible refine spliced_more ?_ ?ka); (case ka => rfl)
    with_reducible refine wpAny_BinOp ?_
    (with_reducible refine' rd ?ka ?kb ?_ ?kc ?kd ?ke); (case ka => with_reducible assumption); (case kb => walk_at "look"); (case kc => rfl); (case kd => rfl); (case ke => decide)
    (with_reducible refine cInt ?_); intro _ _
    (with_reducible refine addI ?_); intro _ _
    (with_reducible refine spliced_more ?_ ?ka); (case ka => rfl)
    (with_reducible refine Call_ ?_ ?ka); (case ka => rfl)
    (with_reducible refine' rdB ?ka ?kb ?kc ?kd ?_ ?ke ?kf ?kg ?kh); (case ka => with_reducible assumption); (case kb => with_reducible assumption); (case kc => first | with_reducible exact gb0 _ | with_reducible exact gb1 _ | with_reducible exact gb2 _ | with_reducible exact gb3 _ | with_reducible exact gb4 _); (case kd => first | exact boot_len | exact boot_range | exact boot_enumerate | exact boot_tuple | exact boot_sum); (case ke => decide); (case kf => rfl); (case kg => rfl); (case kh => decide)
    (with_reducible refine callWith_builtin1 ?_ ?ka ?kb); (case ka => rfl); (case kb => rfl)
    (with_reducible refine spliced_more ?_ ?ka); (case ka => rfl)
    (with_reducible refine' rd ?ka ?kb ?_ ?kc ?kd ?ke); (case ka => with_reducible assumption); (case kb => walk_at "look"); (case kc => rfl); (case kd => rfl); (case ke => decide)
    with_reducible refine spliced_none ?_
    (with_reducible refine lenS ?ka ?_); (case ka => with_reducible assumption); intro _ _
    (with_reducible refine spliced_more ?_ ?ka); (case ka => rfl)
    (with_reducible refine cInt ?_); intro _ _
    with_reducible refine spliced_none ?_
    refine' rng3 (N := rsz (0 + (i : Int) * 1 + 2) x.length) ?S (by decide) (small_two (by omega) (by omega) (by omega) (by omega)) (rsz_eq _ _) (by decide) (fun I₂ oI₂ h₃ t₃ S₃ wt₂ => ?_)
    case S => with_reducible assumption
    obtain ⟨J2, hJ2⟩ : ∃ J : Nat → (Str → Option Value) → List (Addr × Obj) → Prop, J = fun i₂ m os => os = [] ∧ m (Str.ofString "word") = some (.str x tx) ∧ (∃ ts, m (Str.ofString "start") = some (.int (0 + (i : Int) * 1) ts)) ∧ ∀ j, j < i₂ → twinE x (0 + (i : Int) * 1) (0 + (i : Int) * 1 + 2 + (j : Nat) * 2) = none := ⟨_, rfl⟩
    refine for_loop (con := [(I, oI)]) (os := []) (Walks.range (by exact hh) I₂ (0 + (i : Int) * 1 + 2) 2 (rsz (0 + (i : Int) * 1 + 2) x.length)) (fun i h wt => ⟨_, wt⟩) (fun b hb => .inl (List.mem_singleton.mp hb))
      J2
      ?_ ?_ S₃ wt₂ (by subst hJ2; exact ⟨rfl, by walk_at "look", ⟨_, by walk_at "look"⟩, fun j hj => absurd hj (Nat.not_lt_zero _)⟩)
    · rintro i₂ m os v oI₂ h t hi₂ ⟨tk, rfl⟩ hj S
      rw [hJ2] at hj
      obtain ⟨rfl, m1, ⟨ts, m2⟩, j2⟩ := hj
      have hmid : 0 + (i : Int) * 1 + 2 + (i₂ : Int) * 2 < 500 := by
        have : rsz (0 + (i : Int) * 1 + 2) x.length ≤ 100 := by unfold rsz; split <;> omega
        omega
      with_reducible refine wpAny_execs_cons ?_
      (with_reducible refine' wpAny_For ?_ ?ka); (case ka => intro _; rfl)
      (with_reducible refine Call_ ?_ ?ka); (case ka => rfl)
      (with_reducible refine' rdB ?ka ?kb ?kc ?kd ?_ ?ke ?kf ?kg ?kh); (case ka => with_reducible assumption); (case kb => with_reducible assumption); (case kc => first | with_reducible exact gb0 _ | with_reducible exact gb1 _ | with_reducible exact gb2 _ | with_reducible exact gb3 _ | with_reducible exact gb4 _); (case kd => first | exact boot_len | exact boot_range | exact boot_enumerate | exact boot_tuple | exact boot_sum); (case ke => decide); (case kf => rfl); (case kg => rfl); (case kh => decide)
      (with_reducible refine callWith_type1 ?_ ?ka ?kb); (case ka => rfl); (case kb => rfl)
      (with_reducible refine spliced_more ?_ ?ka); (case ka => rfl)
      with_reducible refine wpAny_BinOp ?_
      (with_reducible refine' rd ?ka ?kb ?_ ?kc ?kd ?ke); (case ka => with_reducible assumption); (case kb => walk_at "look"); (case kc => rfl); (case kd => rfl); (case ke => decide)
      (with_reducible refine cInt ?_); intro _ _
      (with_reducible refine addI ?_); intro _ _
      (with_reducible refine spliced_more ?_ ?ka); (case ka => rfl)
      with_reducible refine wpAny_BinOp ?_
      (with_reducible refine Call_ ?_ ?ka); (case ka => rfl)
      (with_reducible refine' rdB ?ka ?kb ?kc ?kd ?_ ?ke ?kf ?kg ?kh); (case ka => with_reducible assumption); (case kb => with_reducible assumption); (case kc => first | with_reducible exact gb0 _ | with_reducible exact gb1 _ | with_reducible exact gb2 _ | with_reducible exact gb3 _ | with_reducible exact gb4 _); (case kd => first | exact boot_len | exact boot_range | exact boot_enumerate | exact boot_tuple | exact boot_sum); (case ke => decide); (case kf => rfl); (case kg => rfl); (case kh => decide)
      (with_reducible refine callWith_builtin1 ?_ ?ka ?kb); (case ka => rfl); (case kb => rfl)
      (with_reducible refine spliced_more ?_ ?ka); (case ka => rfl)
      (with_reducible refine' rd ?ka ?kb ?_ ?kc ?kd ?ke); (case ka => with_reducible assumption); (case kb => walk_at "look"); (case kc => rfl); (case kd => rfl); (case ke => decide)
      with_reducible refine spliced_none ?_
      (with_reducible refine lenS ?ka ?_); (case ka => with_reducible assumption); intro _ _
      (with_reducible refine cInt ?_); intro _ _
      (with_reducible refine addI ?_); intro _ _
      (with_reducible refine spliced_more ?_ ?ka); (case ka => rfl)
      (with_reducible refine cInt ?_); intro _ _
      with_reducible refine spliced_none ?_
      refine' rng3 (N := rsz (0 + (i : Int) * 1 + 2 + (i₂ : Int) * 2 + 2) (x.length + 1)) ?S (by decide) (small_two (by omega) (by omega) (by omega) (by omega)) (rsz_eq _ _) (by decide) (fun I₃ oI₃ h₄ t₄ S₄ wt₃ => ?_)
      case S => with_reducible assumption
      generalize es : (0 + (i : Int) * 1) = st at *
      generalize em : st + 2 + (i₂ : Int) * 2 = mi at *
      obtain ⟨J3, hJ3⟩ : ∃ J : Nat → (Str → Option Value) → List (Addr × Obj) → Prop, J = fun i₃ m os => os = [] ∧ m (Str.ofString "word") = some (.str x tx) ∧ (∃ ts, m (Str.ofString "start") = some (.int st ts)) ∧ (∃ ts, m (Str.ofString "middle") = some (.int mi ts)) ∧ ∀ j, j < i₃ → twinC x st mi (mi + 2 + (j : Nat) * 2) = none := ⟨_, rfl⟩
      refine for_loop (con := [(I₂, oI₂), (I, oI)]) (os := []) (Walks.range (by exact hh) I₃ (mi + 2) 2 (rsz (mi + 2) (x.length + 1))) (fun i h wt => ⟨_, wt⟩) (fun b hb => .inl (List.mem_singleton.mp hb))
        J3
        ?_ ?_ S₄ wt₃ (by subst hJ3; exact ⟨rfl, by walk_at "look", ⟨_, by walk_at "look"⟩, ⟨_, by walk_at "look"⟩, fun j hj => absurd hj (Nat.not_lt_zero _)⟩)
      · rintro i₃ m os v oI₃ h t hi₃ ⟨tk, rfl⟩ hj S
        rw [hJ3] at hj
        obtain ⟨rfl, m1, ⟨ts, m2⟩, ⟨tm, m3⟩, j3⟩ := hj
        generalize ee : mi + 2 + (i₃ : Int) * 2 = en at S
        have z1 := Txt.slice_le x (some st) (some mi)
        have z2 := Txt.slice_le x (some mi) (some en)
        have z3 := Txt.slice_le x none (some st)
        have z4 := Txt.slice_le x (some en) none
        have z1' : (Txt.slice x (some st) (some mi)).length ≤ sizeLine := by rw [sizeLine_eq]; omega
        have z2' : (Txt.slice x (some mi) (some en)).length ≤ sizeLine := by rw [sizeLine_eq]; omega
        have fin : twinC x st mi en = none → ∀ j, j < i₃ + 1 → twinC x st mi (mi + 2 + (j : Nat) * 2) = none := fun e j hj => by
          rcases Nat.lt_succ_iff_lt_or_eq.mp hj with hj | rfl
          · exact j3 j hj
          · rw [ee]; exact e
        with_reducible refine wpAny_execs_cons ?_
        (with_reducible refine wpAny_Assign_Name ?_ ?ka); (case ka => rfl)
        with_reducible refine Subscript_ ?_
        (with_reducible refine' rd ?ka ?kb ?_ ?kc ?kd ?ke); (case ka => with_reducible assumption); (case kb => walk_at "look"); (case kc => rfl); (case kd => rfl); (case ke => decide)
        with_reducible refine wpAny_Slice ?_
        with_reducible refine evalPart_some_step ?_
        (with_reducible refine' rd ?ka ?kb ?_ ?kc ?kd ?ke); (case ka => with_reducible assumption); (case kb => walk_at "look"); (case kc => rfl); (case kd => rfl); (case ke => decide)
        with_reducible refine evalPart_some_step ?_
        (with_reducible refine' rd ?ka ?kb ?_ ?kc ?kd ?ke); (case ka => with_reducible assumption); (case kb => walk_at "look"); (case kc => rfl); (case kd => rfl); (case ke => decide)
        with_reducible refine evalPart_none_step ?_
        (with_reducible refine' sliceSS ?ka ?kb ?_ ?kc ?kd); (case ka => with_reducible assumption); (case kb => walk_at "sz"); (case kc => with_unfolding_all rfl); (case kd => intro _; with_unfolding_all rfl); intro _ _ _ _
        (with_reducible refine' sto ?ka ?_ ?kb ?kc); (case ka => with_reducible assumption); (case kb => rfl); (case kc => rfl); intro _ _ _
        with_reducible refine wpAny_execs_cons ?_
        (with_reducible refine wpAny_Assign_Name ?_ ?ka); (case ka => rfl)
        with_reducible refine Subscript_ ?_
        (with_reducible refine' rd ?ka ?kb ?_ ?kc ?kd ?ke); (case ka => with_reducible assumption); (case kb => walk_at "look"); (case kc => rfl); (case kd => rfl); (case ke => decide)
        with_reducible refine wpAny_Slice ?_
        with_reducible refine evalPart_some_step ?_
        (with_reducible refine' rd ?ka ?kb ?_ ?kc ?kd ?ke); (case ka => with_reducible assumption); (case kb => walk_at "look"); (case kc => rfl); (case kd => rfl); (case ke => decide)
        with_reducible refine evalPart_some_step ?_
        (with_reducible refine' rd ?ka ?kb ?_ ?kc ?kd ?ke); (case ka => with_reducible assumption); (case kb => walk_at "look"); (case kc => rfl); (case kd => rfl); (case ke => decide)
        with_reducible refine evalPart_none_step ?_
        (with_reducible refine' sliceSS ?ka ?kb ?_ ?kc ?kd); (case ka => with_reducible assumption); (case kb => walk_at "sz"); (case kc => with_unfolding_all rfl); (case kd => intro _; with_unfolding_all rfl); intro _ _ _ _
        (with_reducible refine' sto ?ka ?_ ?kb ?kc); (case ka => with_reducible assumption); (case kb => rfl); (case kc => rfl); intro _ _ _
        with_reducible refine wpAny_execs_cons ?_
        with_reducible refine wpAny_If ?_
        with_reducible refine isTrue_and ?_
        (with_reducible refine wpAny_isTrue_Compare1 ?_ ?ka); (case ka => with_unfolding_all rfl)
        (with_reducible refine' rd ?ka ?kb ?_ ?kc ?kd ?ke); (case ka => with_reducible assumption); (case kb => walk_at "look"); (case kc => rfl); (case kd => rfl); (case ke => decide)
        (with_reducible refine' rd ?ka ?kb ?_ ?kc ?kd ?ke); (case ka => with_reducible assumption); (case kb => walk_at "look"); (case kc => rfl); (case kd => rfl); (case ke => decide)
        with_reducible refine neS ?_
        with_reducible refine trB ?_
        by_cases c1 : (Txt.slice x (some st) (some mi) != Txt.slice x (some mi) (some en)) = true
        · rw [if_pos c1]
          with_reducible refine isTrue_and ?_
          (with_reducible refine wpAny_isTrue_Compare1 ?_ ?ka); (case ka => with_unfolding_all rfl)
          with_reducible refine wpAny_BinOp ?_
          (with_reducible refine' MethodCall_ ?_ ?ka); (case ka => rfl)
          (with_reducible refine' rd ?ka ?kb ?_ ?kc ?kd ?ke); (case ka => with_reducible assumption); (case kb => walk_at "look"); (case kc => rfl); (case kd => rfl); (case ke => decide)
          with_reducible refine GM.count ?_
          (with_reducible refine cwm ?_ ?ka ?kb); (case ka => rfl); (case kb => rfl)
          (with_reducible refine spliced_more ?_ ?ka); (case ka => rfl)
          (with_reducible refine cStr ?_); intro _ _
          with_reducible refine spliced_none ?_
          (with_reducible refine countS ?_); intro _ _
          (with_reducible refine cInt ?_); intro _ _
          refine mulI (IntMulOk.of_right (by decide)) (fun t₅ u₅ => ?_)
          (with_reducible refine Call_ ?_ ?ka); (case ka => rfl)
          (with_reducible refine' rdB ?ka ?kb ?kc ?kd ?_ ?ke ?kf ?kg ?kh); (case ka => with_reducible assumption); (case kb => with_reducible assumption); (case kc => first | with_reducible exact gb0 _ | with_reducible exact gb1 _ | with_reducible exact gb2 _ | with_reducible exact gb3 _ | with_reducible exact gb4 _); (case kd => first | exact boot_len | exact boot_range | exact boot_enumerate | exact boot_tuple | exact boot_sum); (case ke => decide); (case kf => rfl); (case kg => rfl); (case kh => decide)
          (with_reducible refine callWith_builtin1 ?_ ?ka ?kb); (case ka => rfl); (case kb => rfl)
          (with_reducible refine spliced_more ?_ ?ka); (case ka => rfl)
          (with_reducible refine' rd ?ka ?kb ?_ ?kc ?kd ?ke); (case ka => with_reducible assumption); (case kb => walk_at "look"); (case kc => rfl); (case kd => rfl); (case ke => decide)
          with_reducible refine spliced_none ?_
          (with_reducible refine lenS ?ka ?_); (case ka => with_reducible assumption); intro _ _
          with_reducible refine eqI ?_
          with_reducible refine trB ?_
          by_cases c2 : (Txt.count (Txt.slice x (some st) (some mi)) (Str.ofString "\t") * 2 == ((Txt.slice x (some st) (some mi)).length : Int)) = true
          · rw [if_pos c2]
            with_reducible refine isTrue_and ?_
            (with_reducible refine wpAny_isTrue_Compare1 ?_ ?ka); (case ka => with_unfolding_all rfl)
            with_reducible refine wpAny_BinOp ?_
            (with_reducible refine' MethodCall_ ?_ ?ka); (case ka => rfl)
            (with_reducible refine' rd ?ka ?kb ?_ ?kc ?kd ?ke); (case ka => with_reducible assumption); (case kb => walk_at "look"); (case kc => rfl); (case kd => rfl); (case ke => decide)
            with_reducible refine GM.count ?_
            (with_reducible refine cwm ?_ ?ka ?kb); (case ka => rfl); (case kb => rfl)
            (with_reducible refine spliced_more ?_ ?ka); (case ka => rfl)
            (with_reducible refine cStr ?_); intro _ _
            with_reducible refine spliced_none ?_
            (with_reducible refine countS ?_); intro _ _
            (with_reducible refine cInt ?_); intro _ _
            refine mulI (IntMulOk.of_right (by decide)) (fun t₅ u₅ => ?_)
            (with_reducible refine Call_ ?_ ?ka); (case ka => rfl)
            (with_reducible refine' rdB ?ka ?kb ?kc ?kd ?_ ?ke ?kf ?kg ?kh); (case ka => with_reducible assumption); (case kb => with_reducible assumption); (case kc => first | with_reducible exact gb0 _ | with_reducible exact gb1 _ | with_reducible exact gb2 _ | with_reducible exact gb3 _ | with_reducible exact gb4 _); (case kd => first | exact boot_len | exact boot_range | exact boot_enumerate | exact boot_tuple | exact boot_sum); (case ke => decide); (case kf => rfl); (case kg => rfl); (case kh => decide)
            (with_reducible refine callWith_builtin1 ?_ ?ka ?kb); (case ka => rfl); (case kb => rfl)
            (with_reducible refine spliced_more ?_ ?ka); (case ka => rfl)
            (with_reducible refine' rd ?ka ?kb ?_ ?kc ?kd ?ke); (case ka => with_reducible assumption); (case kb => walk_at "look"); (case kc => rfl); (case kd => rfl); (case ke => decide)
            with_reducible refine spliced_none ?_
            (with_reducible refine lenS ?ka ?_); (case ka => with_reducible assumption); intro _ _
            with_reducible refine eqI ?_
            with_reducible refine trB ?_
            by_cases c3 : (Txt.count (Txt.slice x (some mi) (some en)) (Str.ofString "\t") * 2 == ((Txt.slice x (some mi) (some en)).length : Int)) = true
            · rw [if_pos c3]
              with_reducible refine isTrue_and_nil ?_
              with_reducible refine itT ?_
              with_reducible refine wpAny_execs_cons ?_
              with_reducible refine wpAny_Return_some ?_
              with_reducible refine wpAny_BinOp ?_
              with_reducible refine wpAny_BinOp ?_
              with_reducible refine wpAny_BinOp ?_
              with_reducible refine Subscript_ ?_
              (with_reducible refine' rd ?ka ?kb ?_ ?kc ?kd ?ke); (case ka => with_reducible assumption); (case kb => walk_at "look"); (case kc => rfl); (case kd => rfl); (case ke => decide)
              with_reducible refine wpAny_Slice ?_
              with_reducible refine evalPart_none_step ?_
              with_reducible refine evalPart_some_step ?_
              (with_reducible refine' rd ?ka ?kb ?_ ?kc ?kd ?ke); (case ka => with_reducible assumption); (case kb => walk_at "look"); (case kc => rfl); (case kd => rfl); (case ke => decide)
              with_reducible refine evalPart_none_step ?_
              (with_reducible refine' sliceNS ?ka ?kb ?_ ?kc ?kd); (case ka => with_reducible assumption); (case kb => walk_at "sz"); (case kc => with_unfolding_all rfl); (case kd => intro _; with_unfolding_all rfl); intro _ _ _ _
              (with_reducible refine' rd ?ka ?kb ?_ ?kc ?kd ?ke); (case ka => with_reducible assumption); (case kb => walk_at "look"); (case kc => rfl); (case kd => rfl); (case ke => decide)
              (with_reducible refine addS ?ka ?_); (case ka => rw [sizeLine_eq]; (try simp only [Str.length_append]); omega); intro _ _
              (with_reducible refine' rd ?ka ?kb ?_ ?kc ?kd ?ke); (case ka => with_reducible assumption); (case kb => walk_at "look"); (case kc => rfl); (case kd => rfl); (case ke => decide)
              (with_reducible refine addS ?ka ?_); (case ka => rw [sizeLine_eq]; (try simp only [Str.length_append]); omega); intro _ _
              with_reducible refine Subscript_ ?_
              (with_reducible refine' rd ?ka ?kb ?_ ?kc ?kd ?ke); (case ka => with_reducible assumption); (case kb => walk_at "look"); (case kc => rfl); (case kd => rfl); (case ke => decide)
              with_reducible refine wpAny_Slice ?_
              with_reducible refine evalPart_some_step ?_
              (with_reducible refine' rd ?ka ?kb ?_ ?kc ?kd ?ke); (case ka => with_reducible assumption); (case kb => walk_at "look"); (case kc => rfl); (case kd => rfl); (case ke => decide)
              with_reducible refine evalPart_none_step ?_
              with_reducible refine evalPart_none_step ?_
              (with_reducible refine' sliceSN ?ka ?kb ?_ ?kc ?kd); (case ka => with_reducible assumption); (case kb => walk_at "sz"); (case kc => with_unfolding_all rfl); (case kd => intro _; with_unfolding_all rfl); intro _ _ _ _
              (with_reducible refine addS ?ka ?_); (case ka => rw [sizeLine_eq]; (try simp only [Str.length_append]); omega); intro _ _
              have ec : twinC x st mi en = some (Txt.slice x none (some st) ++ Txt.slice x (some mi) (some en) ++ Txt.slice x (some st) (some mi) ++ Txt.slice x (some en) none) := by
                unfold twinC; rw [if_pos c1, if_pos c2, if_pos c3]
              have e3 : twinE x st mi = some _ := fs_some j3 hi₃ (by rw [ee]; exact ec)
              have e2 : twinMid x st = some _ := fs_some j2 hi₂ (by rw [em]; exact e3)
              have e1 : twinO x = some _ := fs_some j1 hi (by rw [es]; exact e2)
              have e0 : twinM x = Txt.slice x none (some st) ++ Txt.slice x (some mi) (some en) ++ Txt.slice x (some st) (some mi) ++ Txt.slice x (some en) none := by unfold twinM; rw [e1]; rfl
              rw [e0] at q
              exact q _ _ _ (St.F (by assumption)).keep
            · rw [if_neg c3]
              with_reducible refine itF ?_
              with_reducible refine wpAny_execs_nil ?_
              with_reducible refine wpAny_execs_nil ?_
              subst hJ3
              exact ⟨_, [], _, _, rfl, by assumption, rfl, by walk_at "look", ⟨_, by walk_at "look"⟩, ⟨_, by walk_at "look"⟩, fin (by unfold twinC; rw [if_pos c1, if_pos c2, if_neg c3])⟩
          · rw [if_neg c2]
            with_reducible refine itF ?_
            with_reducible refine wpAny_execs_nil ?_
            with_reducible refine wpAny_execs_nil ?_
            subst hJ3
            exact ⟨_, [], _, _, rfl, by assumption, rfl, by walk_at "look", ⟨_, by walk_at "look"⟩, ⟨_, by walk_at "look"⟩, fin (by unfold twinC; rw [if_pos c1, if_neg c2])⟩
        · rw [if_neg c1]
          with_reducible refine itF ?_
          with_reducible refine wpAny_execs_nil ?_
          with_reducible refine wpAny_execs_nil ?_
          subst hJ3
          exact ⟨_, [], _, _, rfl, by assumption, rfl, by walk_at "look", ⟨_, by walk_at "look"⟩, ⟨_, by walk_at "look"⟩, fin (by unfold twinC; rw [if_neg c1])⟩
      · rintro m os h t hj S
        rw [hJ3] at hj
        obtain ⟨rfl, m1, m2, m3, j3⟩ := hj
        with_reducible refine wpAny_execs_nil ?_
        subst hJ2
        exact ⟨_, [], _, _, rfl, S, rfl, m1, m2, fun j hj => by
          rcases Nat.lt_succ_iff_lt_or_eq.mp hj with hj | rfl
          · exact j2 j hj
          · rw [em]; exact fs_none j3⟩
    · rintro m os h t hj S
      rw [hJ2] at hj
      obtain ⟨rfl, m1, m2, j2⟩ := hj
      with_reducible refine wpAny_execs_nil ?_
      subst hJ1
      exact ⟨_, [], _, _, rfl, S, rfl, m1, fun j hj => by
        rcases Nat.lt_succ_iff_lt_or_eq.mp hj with hj | rfl
        · exact j1 j hj
        · exact fs_none j2⟩
  · rintro m os h t hj S
    rw [hJ1] at hj
    obtain ⟨rfl, m1, j1⟩ := hj
    with_reducible refine wpAny_execs_cons ?_
    with_reducible refine wpAny_Return_some ?_
    (with_reducible refine' rd ?ka ?kb ?_ ?kc ?kd ?ke); (case ka => with_reducible assumption); (case kb => walk_at "look"); (case kc => rfl); (case kd => rfl); (case ke => decide)
    have e : twinM x = x := by unfold twinM twinO; rw [fs_none j1]; rfl
    rw [e] at q
    exact q _ _ _ S.F.keep
end
/-- the objects that a call has made go onto the caller's list -/
theorem St.adopt {h₀ h h' : Heap} {L L' : Addr} {m m' : Str → Option Value} {os ads : List (Addr × Obj)} (S : St h₀ L m os h) (S' : St h L' m' ads h') : St h₀ L m (ads ++ os) h' := by
  have T := S.grow S'.F.keep
  refine ⟨T.F, fun p hp => ?_, ?_⟩
  · rcases List.mem_append.mp hp with hp | hp
    · have N := S'.N p hp
      refine ⟨N.1, fun e => ?_, ?_⟩
      · obtain ⟨oL, _, _, eL, _⟩ := S.F.ns
        have := N.2.2; rw [e, eL] at this; cases this
      · cases e : h₀.get? p.1 with
        | none => rfl
        | some o => have := S.F.keep _ _ e; rw [N.2.2] at this; cases this
    · exact T.N p hp
  · rw [List.map_append]
    refine List.nodup_append.mpr ⟨S'.D, S.D, fun a ha b hb e => ?_⟩
    obtain ⟨p, hp, rfl⟩ := List.mem_map.mp ha
    obtain ⟨p', hp', rfl⟩ := List.mem_map.mp hb
    have h1 := (S'.N p hp).2.2
    have h2 := (S.N p' hp').1
    rw [e, h2] at h1; cases h1
structure WsAt (os : List (Addr × Obj)) (x : Addr) (n nt : Int) (cnt : List Int) (b : Int) : Prop where
  all : ∃ dx es k tn tc vs t1 t2 t3, (x, instObj 83 dx) ∈ os ∧ (dx, dictOf es k) ∈ os ∧ getL (Str.ofString "n") es = some (some (.int n t1)) ∧ getL (Str.ofString "nt") es = some (some (.int nt t2)) ∧ getL (Str.ofString "norm") es = some (some (.ref tn)) ∧ getL (Str.ofString "equal") es = some none ∧
    (tn, tob [.ref tc, .int b t3]) ∈ os ∧ (tc, tob vs) ∈ os ∧ IntsAre vs cnt
theorem WsAt.mono {os os' : List (Addr × Obj)} {x : Addr} {n nt : Int} {cnt : List Int} {b : Int} (W : WsAt os x n nt cnt b) (h : ∀ p ∈ os, p ∈ os') : WsAt os' x n nt cnt b := by
  obtain ⟨⟨dx, es, k, tn, tc, vs, t1, t2, t3, a1, a2, a3, a4, a5, a6, a7, a8, a9⟩⟩ := W
  exact ⟨⟨dx, es, k, tn, tc, vs, t1, t2, t3, h _ a1, h _ a2, a3, a4, a5, a6, h _ a7, h _ a8, a9⟩⟩
section
variable {prog : Program} {w : World} {A : Around} {E : Value → Shared → Prop} {h₀ h : Heap} {L : Addr} {m : Str → Option Value} {pre post os : List (Addr × Obj)} {gs : Array GenState} {dr : Drawn} {t : Nat} {o : OsState} {pos : Pos} {env : Env} {Q : Value → Shared → Prop} {x dx : Addr} {es : List DictEntry} {k : Nat} {v : Value}
theorem getA {name : Str} {expr : Bool} {attr : Option Value} (C : Cx w h₀) (S : St h₀ L m os h) (h1 : (x, instObj 83 dx) ∈ os) (h2 : (dx, dictOf es k) ∈ os) (hg : plainGet (KP w) 83 name = true) (hh : hasDictIn (KP w) 83 = true)
    (ha : findIn (KP w) (.ref 83) name = some attr) (hn : noGet (KP w) attr = true) (hl : getL name es = some (some v)) (hv : handedIn v = true) (q : ∀ t', Q v ⟨h, gs, dr, t', o⟩) : wpAny (model prog w) A (getAttr (.ref x) name expr) Q E ⟨h, gs, dr, t, o⟩ :=
  get_own (s := ⟨h, gs, dr, t, o⟩) S.F C.X (InstAt.of_news S.N h1 h2) hg hh ha hn hl hv (q _)
theorem setA {name : Str} {Q : Unit → Shared → Prop} (C : Cx w h₀) (S : St h₀ L m (pre ++ (dx, dictOf es k) :: post) h) (h1 : (x, instObj 83 dx) ∈ pre ++ (dx, dictOf es k) :: post)
    (hs : findIn (KP w) (.ref 83) (Str.ofString "__setattr__") = some (some (.builtin "object.__setattr__"))) (hp : plainOver (KP w) 83 = true) (ht : takerIn (KP w) 83 name = some none) (hh : hasDictIn (KP w) 83 = true) (hl : (getL name es).isSome = true) (hz : es.length ≤ 100)
    (q : ∀ h' t' u, St h₀ L m (pre ++ (dx, dictOf (putL name (PyData.keyHash w.params name) (.str name u) v es) (putN name es k)) :: post) h' → Q () ⟨h', gs, dr, t', o⟩) :
    wpAny (model prog w) A (setAttr (.ref x) name v) Q E ⟨h, gs, dr, t, o⟩ := by
  have D := S.D
  rw [List.map_append, List.map_cons] at D
  have D' := List.nodup_append.mp D
  have n1 : ∀ p ∈ pre, p.1 ≠ dx := fun p hp => D'.2.2 _ (List.mem_map_of_mem hp) _ (List.mem_cons_self ..)
  have n2 : ∀ p ∈ post, p.1 ≠ dx := fun p hp q => (List.nodup_cons.mp D'.2.1).1 (List.mem_map.mpr ⟨p, hp, q⟩)
  have U : ∀ (o' : Obj) (pr : List (Addr × Obj)), (∀ p ∈ pr, p.1 ≠ dx) → Upd dx (dictOf es k) o' (pr ++ (dx, dictOf es k) :: post) (pr ++ (dx, o') :: post) := by
    intro o' pr hpr
    induction pr with
    | nil => exact .head n2
    | cons p r ih => exact .tail (hpr p (.head _)) (ih fun q hq => hpr q (.tail _ hq))
  have pl : ∀ (l : List DictEntry) a b c, (putL name a b c l).length ≤ l.length + 1 := by
    intro l a b c
    induction l with
    | nil => simp [putL]
    | cons e r ih => unfold putL; split <;> simp; exact ih
  refine set_dict (s := ⟨h, gs, dr, t, o⟩) S.F C.X S.N (InstAt.of_news S.N h1 (List.mem_append_right _ (.head _))) rfl hs hp ht hh hl rfl (U _ _ n1) (by have := pl es (PyData.keyHash w.params name) (.str name (t + 1)) v; exact Nat.le_trans this (by omega)) (fun h' F N => q h' _ _ ⟨F, N, ?_⟩)
  rw [List.map_append, List.map_cons]; exact D
theorem getC {name : Str} {expr : Bool} {a : Value} (C : Cx w h₀) (S : St h₀ L m os h) (hr : readsIn (KP w) 83 (.type "type") = true) (e : findCls (KP w) (.ref 83) (.type "type") name = some (.val a)) (hh : handedIn a = true) (q : ∀ t', Q a ⟨h, gs, dr, t', o⟩) :
    wpAny (model prog w) A (getAttr (.ref 83) name expr) Q E ⟨h, gs, dr, t, o⟩ := cls_val (s := ⟨h, gs, dr, t, o⟩) (mc := .type "type") S.F C.X rfl hr e hh (q _)
/-- a new Whitespace: what its __init__ leaves to be shown -/
theorem mkWs {name qual : Str} {params : Arguments} {body : List Stmt} {scope : Scope} {dV kV doc pm cdv ct oc : Value} {an od : Option Addr} {osl : Array (Option Value)} {args : List Value} {binds : Addr → List (Str × Value)}
    (C : Cx w h) (ho : (KP w).lookup 38 = some ⟨oc, od, .func (fnOf name qual params body scope dV kV doc pm an cdv ct), osl⟩) (hcd : codeIn (KP w) cdv qual = true) (hroom : A.depth + 5 < recursionLimit)
    (hbind : ∀ x, bindArgs (fnOf name qual params body scope dV kV doc pm an cdv ct) ⟨.ref x :: args, []⟩ = pure (binds x)) (hloc : ∀ x, ((binds x).all fun y => decide (scope.names.lookup y.1 = some .local)) = true)
    (q : ∀ x dx L' h₁ t, St h L' (fun y => (binds x).reverse.lookup y) [(x, instObj 83 dx), (dx, dictOf [] 0)] h₁ →
      wpAny (model prog w) ((A.under (.builtin "type.__call__" ⟨.ref 83 :: args, []⟩)).deeper (envOf qual scope L' 38 cdv)) (execs body (envOf qual scope L' 38 cdv))
        (fun fl s' => (match fl with | .ret v => v | _ => .none) = Value.none ∧ Q (.ref x) s') (fun _ _ => False) ⟨h₁, gs, dr, t, o⟩)
    (hcell : ∀ x ∈ scope.names, x.2 ≠ .cell := by decide) (hco : scope.isCoroutine = false := by rfl) (hgen : scope.isGenerator = false := by rfl) (hk : scope.kind = .function := by rfl) :
    wpAny (model prog w) A (call (.ref 83) args) Q E ⟨h, gs, dr, t, o⟩ := by
  refine wpAny_call (make_core (makes_of C.X rfl) (looks_findIn (r := some (.ref 38)) C.X rfl) (fun self => bind_fn C.X self rfl) (.inl rfl) ?_)
  have k2 : h.StaysIn ((h.push emptyDict).push (instObj 83 h.objs.size)) := fun b o e => Heap.get?_push_of_some _ (Heap.get?_push_of_some _ e)
  have C' := C.keeps k2
  have hd : (A.under (.builtin "type.__call__" ⟨.ref 83 :: args, []⟩)).depth < recursionLimit := by
    rw [depth_under_make]; omega
  refine codeAny_call_def (s := ⟨(h.push emptyDict).push (instObj 83 h.objs.size), gs, dr, t, o⟩) (fd := fnOf name qual params body scope dV kV doc pm an cdv ct) (body := body) (binds := binds (h.objs.size + 1)) hd (C'.X _ _ ho) rfl C'.lim (codeRec_of C'.X hcd) rfl (BindsTo.of_eq (hbind _)) hcell (locs (hloc _)) (fun h₁ hns k => ?_) hco hgen hk
  have e1 : ((h.push emptyDict).push (instObj 83 h.objs.size)).objs.size = h.objs.size + 2 := by rw [Heap.size_push, Heap.size_push]
  have nn : ∀ a, h.objs.size ≤ a → h.get? a = none := fun a ha => by
    cases e : h.get? a with
    | none => rfl
    | some _ => exact absurd (Heap.lt_size e) (Nat.not_lt.mpr ha)
  have S : St h ((h.push emptyDict).push (instObj 83 h.objs.size)).objs.size (fun y => (binds (h.objs.size + 1)).reverse.lookup y) [(h.objs.size + 1, instObj 83 h.objs.size), (h.objs.size, dictOf [] 0)] h₁ := by
    refine ⟨⟨hns, fun b o e => k b o (k2 b o e), by rw [e1]; exact Nat.le_add_right _ _⟩, fun p hp => ?_, ?_⟩
    · rcases List.mem_cons.mp hp with rfl | hp
      · refine ⟨k _ _ ?_, ?_, nn _ (Nat.le_succ _)⟩
        · have := Heap.get?_push_size (h.push emptyDict) (show (instObj 83 h.objs.size).isFreed = false from rfl)
          rw [Heap.size_push] at this; exact this
        · rw [e1]; exact Nat.ne_of_lt (Nat.lt_succ_self _)
      · rcases List.mem_cons.mp hp with rfl | hp
        · refine ⟨k _ _ (Heap.get?_push_of_some _ (Heap.get?_push_size _ rfl)), ?_, nn _ (Nat.le_refl _)⟩
          rw [e1]; exact Nat.ne_of_lt (Nat.lt_add_of_pos_right (by decide))
        · cases hp
    · simp
  refine wpAny_mono (q _ _ _ h₁ _ S) (fun fl s' z => ?_) (fun _ _ x => x.elim)
  exact z
end
/-- an object that is a list of these values -/
noncomputable def LOb (ob : Obj) (vs : List Value) : Prop := ob.cls = .type "list" ∧ ∃ n, ob.data = .seq vs.toArray n
theorem LOb.lob (vs : List Value) (n : Nat) : LOb (lob vs n) vs := ⟨rfl, n, rfl⟩
section
variable {prog : Program} {w : World} {A : Around} {E : Value → Shared → Prop} {h₀ h : Heap} {L : Addr} {m : Str → Option Value} {pre post os : List (Addr × Obj)} {gs : Array GenState} {dr : Drawn} {t : Nat} {o : OsState} {pos : Pos} {env : Env} {Q : Value → Shared → Prop} {l l2 : Addr} {ob ob2 : Obj} {vs vs2 : List Value} {u : Tok}
theorem isO (S : St h₀ L m os h) (hm : (l, ob) ∈ os) (hl : LOb ob vs) : h.IsList l vs.toArray := ⟨ob, S.mem hm, hl⟩
theorem lenO (S : St h₀ L m os h) (hm : (l, ob) ∈ os) (hl : LOb ob vs) (hz : vs.length ≤ sizeLine) (q : ∀ t' u, Q (.int vs.length u) ⟨h, gs, dr, t', o⟩) : wpAny (model prog w) A (call (.builtin "len") [.ref l]) Q E ⟨h, gs, dr, t, o⟩ :=
  call_len_list (s := ⟨h, gs, dr, t, o⟩) (isO S hm hl) (by rw [sizeLine_eq] at hz; rw [List.size_toArray]; omega) (by have := q (t + 1 + 1) (t + 1); simpa using this)
theorem itemO {value slice : Expr} {k : Int} {z : Value} (S : St h₀ L m os h) (hm : (l, ob) ∈ os) (hl : LOb ob vs) (h0 : 0 ≤ k) (hz : vs.length ≤ sizeLine) (hx : vs[k.toNat]? = some z) (q : Q z ⟨h, gs, dr, t, o⟩)
    (hs : subscripted slice false (.ref l) (.int k u) = operate [.ref l, .int k u] (getItem (.ref l) (.int k u)) := by with_unfolding_all rfl) :
    wpAny (model prog w) A (subscriptTail value slice (.ref l) (.int k u)) Q E ⟨h, gs, dr, t, o⟩ := by
  have hl := isO S hm hl
  have hlt : k.toNat < vs.length := by
    rcases Nat.lt_or_ge k.toNat vs.length with e | e
    · exact e
    · rw [List.getElem?_eq_none e] at hx; cases hx
  rw [sizeLine_eq] at hz
  exact tail_any (s := ⟨h, gs, dr, t, o⟩) hl.typeIs slot_list_getitem.lookup (wpAny_getItem_list (s := ⟨h, gs, dr, t, o⟩) hl h0 (by omega) (by simpa using hx) q) hs
theorem setO {k : Int} {z : Value} {Q : Unit → Shared → Prop} (S : St h₀ L m (pre ++ (l, ob) :: post) h) (hl : LOb ob vs) (h0 : 0 ≤ k) (hz : vs.length ≤ sizeLine) (hk : k.toNat < vs.length) (q : ∀ h' ob', LOb ob' (vs.set k.toNat z) → St h₀ L m (pre ++ (l, ob') :: post) h' → Q () ⟨h', gs, dr, t, o⟩) :
    wpAny (model prog w) A (setItem (.ref l) (.int k u) z) Q E ⟨h, gs, dr, t, o⟩ := by
  rw [sizeLine_eq] at hz
  refine wpAny_setItem_list (s := ⟨h, gs, dr, t, o⟩) (isO S (List.mem_append_right _ (.head _)) hl) h0 (by omega) (by rw [List.size_toArray]; omega) (fun h' hm hs => ?_)
  obtain ⟨ob', ho', hl'⟩ := hm
  exact q h' ob' (by simpa [LOb] using hl') (S.same hs ho')
theorem addO (S : St h₀ L m os h) (hm : (l, ob) ∈ os) (hl : LOb ob vs) (hm2 : (l2, ob2) ∈ os) (hl2 : LOb ob2 vs2) (hz : vs.length + vs2.length ≤ sizeLine) (q : ∀ h' l', St h₀ L m ((l', lob (vs ++ vs2) 0) :: os) h' → Q (.ref l') ⟨h', gs, dr, t, o⟩) :
    wpAny (model prog w) A (binaryOp .Add (.ref l) (.ref l2)) Q E ⟨h, gs, dr, t, o⟩ :=
  add_arrays (s := ⟨h, gs, dr, t, o⟩) S.F S.N (isO S hm hl) (isO S hm2 hl2) (fun h' F N => q h' _ ⟨F, by simpa using N, (S.push _).D⟩) (by simpa using hz)
theorem mulO {k : Int} {z : Value} {n : Nat} (S : St h₀ L m os h) (hm : (l, lob [z] n) ∈ os) (h0 : 0 ≤ k) (h1 : k ≤ 1000) (q : ∀ h' l', St h₀ L m ((l', lob (List.replicate k.toNat z) 0) :: os) h' → Q (.ref l') ⟨h', gs, dr, t, o⟩) :
    wpAny (model prog w) A (binaryOp .Mult (.ref l) (.int k u)) Q E ⟨h, gs, dr, t, o⟩ := by
  refine mul_list (s := ⟨h, gs, dr, t, o⟩) S.F S.N (S.mem hm) (by omega) (by omega) (by simp; omega) (fun h' F N => q h' _ ⟨F, ?_, (S.push _).D⟩)
  have e : ∀ (j : Nat) (acc : Array Value), (List.replicate j [z].toArray).foldl (fun x1 x2 => x1 ++ x2) acc = acc ++ (List.replicate j z).toArray := by
    intro j
    induction j with
    | zero => intro acc; simp
    | succ j ih => intro acc; rw [List.replicate_succ, List.foldl_cons, ih, List.replicate_succ]; apply Array.ext'; simp
  have e2 := e k.toNat #[]
  rw [Array.empty_append] at e2
  have e3 : (h.objs.size, lob (List.replicate k.toNat z) 0) = (h.objs.size, ({ cls := .type "list", data := .seq (List.foldl (fun x1 x2 => x1 ++ x2) #[] (List.replicate (if ([z].toArray).isEmpty = true then 0 else k.toNat) [z].toArray)) } : Obj)) := by
    rw [if_neg (by simp), e2]
  rw [e3]
  exact N
theorem tupO (S : St h₀ L m os h) (hm : (l, ob) ∈ os) (hl : LOb ob vs) (hz : vs.length ≤ sizeLine) (q : ∀ h' l', St h₀ L m ((l', tob vs) :: os) h' → Q (.ref l') ⟨h', gs, dr, t, o⟩) :
    wpAny (model prog w) A (call (.type "tuple") [.ref l]) Q E ⟨h, gs, dr, t, o⟩ := by
  refine call_tuple_list (s := ⟨h, gs, dr, t, o⟩) (isO S hm hl) (fun h' hk => ?_) (by rw [List.size_toArray]; exact hz)
  exact q _ _ ((S.grow hk).push _)
theorem itStr {x : Str} (S : St h₀ L m os h) (q : ∀ I oI h' Wt, (∀ A' : Around, A'.handled = none → Walks prog w A' I [I] [I] x.cps.size (SignAt x) Wt) → (∀ i h, Wt i h → ∃ oI, h.get? I = some oI) → St h₀ L m ((I, oI) :: os) h' → Wt 0 h' → Q (.ref I) ⟨h', gs, dr, t, o⟩) :
    wpAny (model prog w) A (pyIter (.str x u)) Q E ⟨h, gs, dr, t, o⟩ := by
  cases ha : x.cps.all (· < 128)
  · exact wpAny_pyIter_wide (s := ⟨h, gs, dr, t, o⟩) ha (q _ _ _ (fun i h' => h'.IsStrIter h.objs.size "str_iterator" x u i) (fun A' hA => Walks.strWide hA _ x u) (fun i h ⟨ob, e, _⟩ => ⟨ob, e⟩) (S.push _) ⟨_, (S.push _).mem (.head _), rfl, rfl⟩)
  · exact wpAny_pyIter_ascii (s := ⟨h, gs, dr, t, o⟩) ha (q _ _ _ (fun i h' => h'.IsStrIter h.objs.size "str_ascii_iterator" x u i) (fun A' hA => Walks.strAscii hA _ x u) (fun i h ⟨ob, e, _⟩ => ⟨ob, e⟩) (S.push _) ⟨_, (S.push _).mem (.head _), rfl, rfl⟩)
end
theorem ints_rep (n : Nat) (k : Int) (u : Tok) : IntsAre (List.replicate n (Value.int k u)) (List.replicate n k) := by
  induction n with
  | zero => exact .nil
  | succ n ih => exact .cons _ _ ih
theorem ints_set {vs : List Value} {c : List Int} (h : IntsAre vs c) : ∀ (i : Nat) (k : Int) (u : Tok), IntsAre (vs.set i (.int k u)) (c.set i k) := by
  induction h with
  | nil => intro i k u; exact .nil
  | cons n t h ih =>
    intro i k u
    cases i with
    | zero => exact .cons _ _ h
    | succ i => exact .cons _ _ (ih i k u)
theorem padO {h₀ h : Heap} {L : Addr} {m : Str → Option Value} {os : List (Addr × Obj)} {prog : Program} {w : World} {A : Around} {E : Value → Shared → Prop} {gs : Array GenState} {dr : Drawn} {t : Nat} {o : OsState} {Q : Value → Shared → Prop} {l l2 : Addr} {ob : Obj} {vs : List Value} {c : List Int} {k n : Nat} {z : Int} {u : Tok}
    (S : St h₀ L m os h) (hm : (l, ob) ∈ os) (hl : LOb ob vs) (hI : IntsAre vs c) (hm2 : (l2, lob (List.replicate n (.int z u)) k) ∈ os) (hz : vs.length + n ≤ sizeLine)
    (q : ∀ h' l' ob' ws, LOb ob' ws → IntsAre ws (c ++ List.replicate n z) → St h₀ L m ((l', ob') :: os) h' → Q (.ref l') ⟨h', gs, dr, t, o⟩) :
    wpAny (model prog w) A (binaryOp .Add (.ref l) (.ref l2)) Q E ⟨h, gs, dr, t, o⟩ :=
  addO S hm hl hm2 (LOb.lob _ _) (by rw [List.length_replicate]; exact hz) (fun h' l' S' => q h' l' _ _ (LOb.lob _ _) (hI.append (ints_rep _ _ _)) S')
theorem St.sw {h₀ h : Heap} {L : Addr} {m : Str → Option Value} {p q : Addr × Obj} {os : List (Addr × Obj)} (S : St h₀ L m (p :: q :: os) h) : St h₀ L m (q :: p :: os) h :=
  ⟨S.F, fun r hr => S.N r ((List.Perm.swap p q os).subset hr), (((List.Perm.swap p q os).map Prod.fst).nodup_iff).mpr S.D⟩
theorem St.d2 {h₀ h : Heap} {L : Addr} {m : Str → Option Value} {p q : Addr × Obj} {os : List (Addr × Obj)} (S : St h₀ L m (p :: q :: os) h) : St h₀ L m (p :: os) h := S.sub (.cons_cons _ (.cons _ (.refl _)))
noncomputable def bump (c : List Int) (b : Nat) : List Int :=
  (if c.length ≤ b then c ++ List.replicate (b - c.length + 1) 0 else c).set b ((if c.length ≤ b then c ++ List.replicate (b - c.length + 1) 0 else c).getD b 0 + 1)
noncomputable def wsGo : List Nat → Nat → Nat → Nat → List Int → Nat × Nat × Nat × List Int
  | [], b, n, nt, c => (b, n, nt, c)
  | ch :: r, b, n, nt, c => if ch = 32 then wsGo r (b + 1) (n + 1) nt c else if ch = 9 then wsGo r 0 (n + 1) (nt + 1) (bump c b) else (b, n, nt, c)
noncomputable def wsM (raw : Str) : Nat × Nat × Nat × List Int := wsGo raw.cps.toList 0 0 0 []
theorem chS (c : Nat) : ((⟨#[c]⟩ : Str) == Str.ofString " ") = decide (c = 32) := by
  rw [show Str.ofString " " = ⟨#[32]⟩ by decide +kernel]
  by_cases h : c = 32
  · subst h; decide
  · rw [decide_eq_false h]
    exact beq_eq_false_iff_ne.mpr (fun e => h (by simpa using e))
theorem chT (c : Nat) : ((⟨#[c]⟩ : Str) == Str.ofString "\t") = decide (c = 9) := by
  rw [show Str.ofString "\t" = ⟨#[9]⟩ by decide +kernel]
  by_cases h : c = 9
  · subst h; decide
  · rw [decide_eq_false h]
    exact beq_eq_false_iff_ne.mpr (fun e => h (by simpa using e))
section
variable {prog : Program} {w : World} {A : Around} {E : Value → Shared → Prop} {h₀ h : Heap} {L : Addr} {m : Str → Option Value} {os : List (Addr × Obj)} {gs : Array GenState} {dr : Drawn} {t : Nat} {o : OsState} {Q : Value → Shared → Prop}
theorem ws_spec {raw : Str} {tw : Tok} (C : Cx w h) (hroom : A.depth + 5 < recursionLimit) (hh : A.handled = none) (hx : raw.length ≤ 100)
    (q : ∀ h' t' x L' m' ads, St h L' m' ads h' → WsAt ads x (wsM raw).2.1 (wsM raw).2.2.1 (wsM raw).2.2.2 (wsM raw).1 → Q (.ref x) ⟨h', gs, dr, t', o⟩) :
    wpAny (model prog w) A (call (.ref 83) [.str raw tw]) Q E ⟨h, gs, dr, t, o⟩ := by
  refine mkWs (binds := fun x => [(Str.ofString "self", .ref x), (Str.ofString "ws", .str raw tw)]) C rfl rfl hroom (fun _ => rfl) (fun _ => rfl) (fun x dx L' h₁ t S => ?_)
  have hh' : (A.under (.builtin "type.__call__" ⟨.ref 83 :: [.str raw tw], []⟩)).handled = none := hh
  with_reducible refine wpAny_execs_cons ?_
  (with_reducible refine plainObj_wpAny_Assign_Attribute ?_ ?ka); (case ka => with_unfolding_all rfl)
  (with_reducible refine' rd ?ka ?kb ?_ ?kc ?kd ?ke); (case ka => with_reducible assumption); (case kb => walk_at "look"); (case kc => rfl); (case kd => rfl); (case ke => decide)
  (with_reducible refine' rd ?ka ?kb ?_ ?kc ?kd ?ke); (case ka => with_reducible assumption); (case kb => walk_at "look"); (case kc => rfl); (case kd => rfl); (case ke => decide)
  refine' setA (pre := [(x, instObj 83 dx)]) (post := []) C S ?h1 ?hs ?hp ?ht ?hd ?hl ?hz (fun h₂ t₂ u₂ S₂ => ?_)
  case h1 => walk_at "mem"
  case hs => exact rfl
  case hp => exact rfl
  case ht => exact rfl
  case hd => exact rfl
  case hl => exact rfl
  case hz => decide
  have S₂' : St h L' _ [(x, instObj 83 dx), (dx, dictOf _ _)] h₂ := S₂
  clear S₂ S
  with_reducible refine wpAny_execs_cons ?_
  (with_reducible refine' Assign_Tuple_swapped ?_ ?ka ?kb); (case ka => exact rfl); (case kb => exact rfl)
  with_reducible refine Tuple_ ?_
  (with_reducible refine spliced_more ?_ ?ka); (case ka => rfl)
  (with_reducible refine Attribute_any_ ?_ ?ka); (case ka => with_unfolding_all rfl)
  (with_reducible refine' rdG ?ka ?kb ?kc ?_ ?kd ?ke ?kf); (case ka => with_reducible assumption); (case kb => with_reducible assumption); (case kc => first | with_reducible exact gl0 _ | with_reducible exact gl1 _ | with_reducible exact gl2 _ | with_reducible exact gl3 _ | with_reducible exact gl4 _ | with_reducible exact gl5 _ | with_reducible exact gl6 _ | with_reducible exact gl7 _ | with_reducible exact gl8 _ | with_reducible exact gl9 _); (case kd => rfl); (case ke => rfl); (case kf => decide)
  refine' getC (a := .str (Str.ofString " ") 209) C S₂' ?hr ?e ?hh (fun t₃ => ?_)
  case hr => exact rfl
  case e => exact rfl
  case hh => exact rfl
  (with_reducible refine spliced_more ?_ ?ka); (case ka => rfl)
  (with_reducible refine Attribute_any_ ?_ ?ka); (case ka => with_unfolding_all rfl)
  (with_reducible refine' rdG ?ka ?kb ?kc ?_ ?kd ?ke ?kf); (case ka => with_reducible assumption); (case kb => with_reducible assumption); (case kc => first | with_reducible exact gl0 _ | with_reducible exact gl1 _ | with_reducible exact gl2 _ | with_reducible exact gl3 _ | with_reducible exact gl4 _ | with_reducible exact gl5 _ | with_reducible exact gl6 _ | with_reducible exact gl7 _ | with_reducible exact gl8 _ | with_reducible exact gl9 _); (case kd => rfl); (case ke => rfl); (case kf => decide)
  refine' getC (a := .str (Str.ofString "\t") 210) C S₂' ?hr ?e ?hh (fun t₄ => ?_)
  case hr => exact rfl
  case e => exact rfl
  case hh => exact rfl
  with_reducible refine spliced_none ?_
  (with_reducible refine' newT ?ka ?_ ?kb); (case ka => with_reducible assumption); (case kb => walk_at "sz"); intro _ _ _ _
  (with_reducible refine' unpT ?ka ?kb ?kc ?kd ?_); (case ka => with_reducible assumption); (case kb => walk_at "mem"); (case kc => assumption); (case kd => exact rfl); intro _ _
  refine asg2 (n1 := Str.ofString "S") (n2 := Str.ofString "T") ?_
  (with_reducible refine' sto ?ka ?_ ?kb ?kc); (case ka => with_reducible assumption); (case kb => rfl); (case kc => rfl); intro _ _ _
  (with_reducible refine' sto ?ka ?_ ?kb ?kc); (case ka => with_reducible assumption); (case kb => rfl); (case kc => rfl); intro _ _ _
  with_reducible refine wpAny_execs_cons ?_
  (with_reducible refine wpAny_Assign_Name ?_ ?ka); (case ka => rfl)
  with_reducible refine List_ ?_
  with_reducible refine spliced_none ?_
  (with_reducible refine' newL ?ka ?_ ?kb); (case ka => with_reducible assumption); (case kb => walk_at "sz"); intro _ _ _ _
  (with_reducible refine' sto ?ka ?_ ?kb ?kc); (case ka => with_reducible assumption); (case kb => rfl); (case kc => rfl); intro _ _ _
  with_reducible refine wpAny_execs_cons ?_
  (with_reducible refine wpAny_Assign_three ?_ ?ka ?kb); (case ka => rfl); (case kb => rfl)
  (with_reducible refine cInt ?_); intro _ _
  with_reducible refine assign_Name ?_
  (with_reducible refine' sto ?ka ?_ ?kb ?kc); (case ka => with_reducible assumption); (case kb => rfl); (case kc => rfl); intro _ _ _
  with_reducible refine assign_Name ?_
  (with_reducible refine' sto ?ka ?_ ?kb ?kc); (case ka => with_reducible assumption); (case kb => rfl); (case kc => rfl); intro _ _ _
  with_reducible refine assign_Name ?_
  (with_reducible refine' sto ?ka ?_ ?kb ?kc); (case ka => with_reducible assumption); (case kb => rfl); (case kc => rfl); intro _ _ _
  with_reducible refine wpAny_execs_cons ?_
  (with_reducible refine' wpAny_For ?_ ?ka); (case ka => intro _; rfl)
  (with_reducible refine Attribute_any_ ?_ ?ka); (case ka => with_unfolding_all rfl)
  (with_reducible refine' rd ?ka ?kb ?_ ?kc ?kd ?ke); (case ka => with_reducible assumption); (case kb => walk_at "look"); (case kc => rfl); (case kd => rfl); (case ke => decide)
  rename_i h₅ t₅ S₅
  refine' getA (attr := none) (v := .str raw tw) C S₅ ?h1 ?h2 ?hg ?hd ?ha ?hn ?hl ?hv (fun t₆ => ?_)
  case h1 => walk_at "mem"
  case h2 => walk_at "mem"
  case hg => exact rfl
  case hd => exact rfl
  case ha => exact rfl
  case hn => exact rfl
  case hl => exact rfl
  case hv => exact rfl
  have hlen : raw.cps.size = raw.length := rfl
  refine itStr S₅ (fun I oI h₆ Wt W hW S₆ wt => ?_)
  generalize hDX : dictOf (putL (Str.ofString "raw") (PyData.keyHash w.params (Str.ofString "raw")) (Value.str (Str.ofString "raw") u₂) (Value.str raw tw) []) (putN (Str.ofString "raw") [] 0) = DX at S₆
  have S₇ := S₆.sub (os' := [(I, oI), _, (x, instObj 83 dx), (dx, DX)]) (by walk_at "subl")
  clear S₆ S₅
  obtain ⟨J, hJ⟩ : ∃ J : Nat → (Str → Option Value) → List (Addr × Obj) → Prop, J = fun i m os => ∃ lc ob vs b n nt c tb tn tnt, os = [(lc, ob), (x, instObj 83 dx), (dx, DX)] ∧ LOb ob vs ∧ IntsAre vs c ∧ b ≤ i ∧ c.length ≤ i ∧ wsGo (raw.cps.toList.drop i) b n nt c = wsM raw ∧
      m (Str.ofString "count") = some (.ref lc) ∧ m (Str.ofString "b") = some (.int (b : Nat) tb) ∧ m (Str.ofString "n") = some (.int (n : Nat) tn) ∧ m (Str.ofString "nt") = some (.int (nt : Nat) tnt) ∧ m (Str.ofString "self") = some (.ref x) ∧ m (Str.ofString "S") = some (.str (Str.ofString " ") 209) ∧ m (Str.ofString "T") = some (.str (Str.ofString "\t") 210) := ⟨_, rfl⟩
  obtain ⟨X, hX⟩ : ∃ X : Flow → Shared → Prop, X = fun f s' => f = Flow.next ∧ ∃ h' t m lc ob vs b n nt c tb tn tnt, s' = ⟨h', gs, dr, t, o⟩ ∧ St h L' m [(lc, ob), (x, instObj 83 dx), (dx, DX)] h' ∧ LOb ob vs ∧ IntsAre vs c ∧ wsM raw = (b, n, nt, c) ∧ c.length ≤ 100 ∧
      m (Str.ofString "count") = some (.ref lc) ∧ m (Str.ofString "b") = some (.int (b : Nat) tb) ∧ m (Str.ofString "n") = some (.int (n : Nat) tn) ∧ m (Str.ofString "nt") = some (.int (nt : Nat) tnt) ∧ m (Str.ofString "self") = some (.ref x) := ⟨_, rfl⟩
  refine codeAny_mono (for_loop (E := fun _ _ => False) (con := []) (os := [_, (x, instObj 83 dx), (dx, DX)]) (Q := X)
    (W _ hh') hW (fun b hb => .inl (List.mem_singleton.mp hb)) J
    ?_ ?_ S₇ wt (by subst hJ; exact ⟨_, _, [], 0, 0, 0, [], _, _, _, rfl, LOb.lob [] 0, .nil, Nat.le_refl _, Nat.le_refl _, rfl, by walk_at "look", by walk_at "look", by walk_at "look", by walk_at "look", by walk_at "look", by walk_at "look", by walk_at "look"⟩)) ?_
  · rintro i m os v oI h₈ t hi ⟨ch, u, hch, rfl⟩ hj S
    rw [hJ] at hj
    obtain ⟨lc, ob, vs, b, n, nt, c, tb, tn, tnt, rfl, hL, hI, hb, hc, e, m1, m2, m3, m4, m5, m6, m7⟩ := hj
    have hd : raw.cps.toList.drop i = ch :: raw.cps.toList.drop (i + 1) := by
      have hch' : raw.cps.toList[i]? = some ch := by simpa using hch
      obtain ⟨hlt, e⟩ := List.getElem?_eq_some_iff.mp hch'
      rw [List.drop_eq_getElem_cons hlt, e]
    rw [hd] at e
    unfold wsGo at e
    have hvl : vs.length = c.length := by have := hI.sizeZ; rw [List.size_toArray] at this; omega
    have hvz : vs.length ≤ sizeLine := by rw [sizeLine_eq]; omega
    with_reducible refine wpAny_execs_cons ?_
    with_reducible refine wpAny_If ?_
    (with_reducible refine wpAny_isTrue_Compare1 ?_ ?ka); (case ka => with_unfolding_all rfl)
    (with_reducible refine' rd ?ka ?kb ?_ ?kc ?kd ?ke); (case ka => with_reducible assumption); (case kb => walk_at "look"); (case kc => rfl); (case kd => rfl); (case ke => decide)
    (with_reducible refine' rd ?ka ?kb ?_ ?kc ?kd ?ke); (case ka => with_reducible assumption); (case kb => walk_at "look"); (case kc => rfl); (case kd => rfl); (case ke => decide)
    with_reducible refine eqS ?_
    with_reducible refine trB ?_
    rw [chS]
    by_cases h1 : ch = 32
    · rw [if_pos (by simpa using h1)]
      rw [if_pos h1] at e
      with_reducible refine wpAny_execs_cons ?_
      (with_reducible refine wpAny_Assign_Name ?_ ?ka); (case ka => rfl)
      with_reducible refine wpAny_BinOp ?_
      (with_reducible refine' rd ?ka ?kb ?_ ?kc ?kd ?ke); (case ka => with_reducible assumption); (case kb => walk_at "look"); (case kc => rfl); (case kd => rfl); (case ke => decide)
      (with_reducible refine cInt ?_); intro _ _
      (with_reducible refine addI ?_); intro _ _
      (with_reducible refine' sto ?ka ?_ ?kb ?kc); (case ka => with_reducible assumption); (case kb => rfl); (case kc => rfl); intro _ _ _
      with_reducible refine wpAny_execs_cons ?_
      (with_reducible refine wpAny_Assign_Name ?_ ?ka); (case ka => rfl)
      with_reducible refine wpAny_BinOp ?_
      (with_reducible refine' rd ?ka ?kb ?_ ?kc ?kd ?ke); (case ka => with_reducible assumption); (case kb => walk_at "look"); (case kc => rfl); (case kd => rfl); (case ke => decide)
      (with_reducible refine cInt ?_); intro _ _
      (with_reducible refine addI ?_); intro _ _
      (with_reducible refine' sto ?ka ?_ ?kb ?kc); (case ka => with_reducible assumption); (case kb => rfl); (case kc => rfl); intro _ _ _
      with_reducible refine wpAny_execs_nil ?_
      with_reducible refine wpAny_execs_nil ?_
      subst hJ
      exact ⟨_, _, _, _, rfl, by assumption, lc, ob, vs, b + 1, n + 1, nt, c, _, _, _, rfl, hL, hI, by omega, by omega, e, by walk_at "look", by walk_at "look", by walk_at "look", by walk_at "look", by walk_at "look", by walk_at "look", by walk_at "look"⟩
    rw [if_neg (by simpa using h1)]
    rw [if_neg h1] at e
    with_reducible refine wpAny_execs_cons ?_
    with_reducible refine wpAny_If ?_
    (with_reducible refine wpAny_isTrue_Compare1 ?_ ?ka); (case ka => with_unfolding_all rfl)
    (with_reducible refine' rd ?ka ?kb ?_ ?kc ?kd ?ke); (case ka => with_reducible assumption); (case kb => walk_at "look"); (case kc => rfl); (case kd => rfl); (case ke => decide)
    (with_reducible refine' rd ?ka ?kb ?_ ?kc ?kd ?ke); (case ka => with_reducible assumption); (case kb => walk_at "look"); (case kc => rfl); (case kd => rfl); (case ke => decide)
    with_reducible refine eqS ?_
    with_reducible refine trB ?_
    rw [chT]
    by_cases h2 : ch = 9
    · rw [if_pos (by simpa using h2)]
      rw [if_pos h2] at e
      with_reducible refine wpAny_execs_cons ?_
      (with_reducible refine wpAny_Assign_Name ?_ ?ka); (case ka => rfl)
      with_reducible refine wpAny_BinOp ?_
      (with_reducible refine' rd ?ka ?kb ?_ ?kc ?kd ?ke); (case ka => with_reducible assumption); (case kb => walk_at "look"); (case kc => rfl); (case kd => rfl); (case ke => decide)
      (with_reducible refine cInt ?_); intro _ _
      (with_reducible refine addI ?_); intro _ _
      (with_reducible refine' sto ?ka ?_ ?kb ?kc); (case ka => with_reducible assumption); (case kb => rfl); (case kc => rfl); intro _ _ _
      with_reducible refine wpAny_execs_cons ?_
      (with_reducible refine wpAny_Assign_Name ?_ ?ka); (case ka => rfl)
      with_reducible refine wpAny_BinOp ?_
      (with_reducible refine' rd ?ka ?kb ?_ ?kc ?kd ?ke); (case ka => with_reducible assumption); (case kb => walk_at "look"); (case kc => rfl); (case kd => rfl); (case ke => decide)
      (with_reducible refine cInt ?_); intro _ _
      (with_reducible refine addI ?_); intro _ _
      (with_reducible refine' sto ?ka ?_ ?kb ?kc); (case ka => with_reducible assumption); (case kb => rfl); (case kc => rfl); intro _ _ _
      with_reducible refine wpAny_execs_cons ?_
      with_reducible refine wpAny_If ?_
      (with_reducible refine wpAny_isTrue_Compare1 ?_ ?ka); (case ka => with_unfolding_all rfl)
      (with_reducible refine' rd ?ka ?kb ?_ ?kc ?kd ?ke); (case ka => with_reducible assumption); (case kb => walk_at "look"); (case kc => rfl); (case kd => rfl); (case ke => decide)
      (with_reducible refine Call_ ?_ ?ka); (case ka => rfl)
      (with_reducible refine' rdB ?ka ?kb ?kc ?kd ?_ ?ke ?kf ?kg ?kh); (case ka => with_reducible assumption); (case kb => with_reducible assumption); (case kc => first | with_reducible exact gb0 _ | with_reducible exact gb1 _ | with_reducible exact gb2 _ | with_reducible exact gb3 _ | with_reducible exact gb4 _); (case kd => first | exact boot_len | exact boot_range | exact boot_enumerate | exact boot_tuple | exact boot_sum); (case ke => decide); (case kf => rfl); (case kg => rfl); (case kh => decide)
      (with_reducible refine callWith_builtin1 ?_ ?ka ?kb); (case ka => rfl); (case kb => rfl)
      (with_reducible refine spliced_more ?_ ?ka); (case ka => rfl)
      (with_reducible refine' rd ?ka ?kb ?_ ?kc ?kd ?ke); (case ka => with_reducible assumption); (case kb => walk_at "look"); (case kc => rfl); (case kd => rfl); (case ke => decide)
      with_reducible refine spliced_none ?_
      refine' lenO ?S ?hm hL hvz (fun t₁₀ u₁₀ => ?_)
      case S => with_reducible assumption
      case hm => walk_at "mem"
      with_reducible refine geI ?_
      with_reducible refine trB ?_
      rw [hvl]
      by_cases hge : c.length ≤ b
      · rw [if_pos (by simpa using hge)]
        with_reducible refine wpAny_execs_cons ?_
        (with_reducible refine wpAny_Assign_Name ?_ ?ka); (case ka => rfl)
        with_reducible refine wpAny_BinOp ?_
        (with_reducible refine' rd ?ka ?kb ?_ ?kc ?kd ?ke); (case ka => with_reducible assumption); (case kb => walk_at "look"); (case kc => rfl); (case kd => rfl); (case ke => decide)
        with_reducible refine wpAny_BinOp ?_
        with_reducible refine List_ ?_
        (with_reducible refine spliced_more ?_ ?ka); (case ka => rfl)
        (with_reducible refine cInt ?_); intro _ _
        with_reducible refine spliced_none ?_
        (with_reducible refine' newL ?ka ?_ ?kb); (case ka => with_reducible assumption); (case kb => walk_at "sz"); intro _ _ _ _
        with_reducible refine wpAny_BinOp ?_
        with_reducible refine wpAny_BinOp ?_
        (with_reducible refine' rd ?ka ?kb ?_ ?kc ?kd ?ke); (case ka => with_reducible assumption); (case kb => walk_at "look"); (case kc => rfl); (case kd => rfl); (case ke => decide)
        (with_reducible refine Call_ ?_ ?ka); (case ka => rfl)
        (with_reducible refine' rdB ?ka ?kb ?kc ?kd ?_ ?ke ?kf ?kg ?kh); (case ka => with_reducible assumption); (case kb => with_reducible assumption); (case kc => first | with_reducible exact gb0 _ | with_reducible exact gb1 _ | with_reducible exact gb2 _ | with_reducible exact gb3 _ | with_reducible exact gb4 _); (case kd => first | exact boot_len | exact boot_range | exact boot_enumerate | exact boot_tuple | exact boot_sum); (case ke => decide); (case kf => rfl); (case kg => rfl); (case kh => decide)
        (with_reducible refine callWith_builtin1 ?_ ?ka ?kb); (case ka => rfl); (case kb => rfl)
        (with_reducible refine spliced_more ?_ ?ka); (case ka => rfl)
        (with_reducible refine' rd ?ka ?kb ?_ ?kc ?kd ?ke); (case ka => with_reducible assumption); (case kb => walk_at "look"); (case kc => rfl); (case kd => rfl); (case ke => decide)
        with_reducible refine spliced_none ?_
        refine' lenO ?S ?hm hL hvz (fun t₁₁ u₁₁ => ?_)
        case S => with_reducible assumption
        case hm => walk_at "mem"
        (with_reducible refine subI ?_); intro _ _
        (with_reducible refine cInt ?_); intro _ _
        (with_reducible refine addI ?_); intro _ _
        refine' mulO ?S ?hm ?h0 ?h1 (fun h₂₀ l₂₀ S₂₀ => ?_)
        case S => with_reducible assumption
        case hm => walk_at "mem"
        case h0 => rw [hvl]; omega
        case h1 => rw [hvl]; omega
        refine' padO S₂₀ ?hm hL hI ?hm2 ?hz (fun h₂₁ l₂₁ ob₂ ws HL HI S₂₁ => ?_)
        case hm => walk_at "mem"
        case hm2 => walk_at "mem"
        case hz => rw [sizeLine_eq, hvl]; omega
        have S₂₂ := S₂₁.d2.d2.sw.sub (.cons_cons _ (.cons_cons _ (.cons _ (.refl _))))
        clear S₂₁ S₂₀
        have en : (↑b - ↑vs.length + 1 : Int).toNat = b - c.length + 1 := by rw [hvl]; omega
        rw [en] at HI
        have HB : bump c b = (c ++ List.replicate (b - c.length + 1) 0).set b ((c ++ List.replicate (b - c.length + 1) 0).getD b 0 + 1) := by unfold bump; simp only [hge, if_true]
        have hbl : b < (c ++ List.replicate (b - c.length + 1) 0).length := by simp; omega
        have hcl : (c ++ List.replicate (b - c.length + 1) 0).length ≤ i + 1 := by simp; omega
        have HVL := HI.length
        have HZ : ws.length ≤ sizeLine := by rw [sizeLine_eq]; omega
        (with_reducible refine' sto ?ka ?_ ?kb ?kc); (case ka => with_reducible assumption); (case kb => rfl); (case kc => rfl); intro _ _ _
        with_reducible refine wpAny_execs_nil ?_
        with_reducible refine wpAny_execs_cons ?_
        (with_reducible refine wpAny_Assign_Subscript ?_ ?ka); (case ka => rfl)
        with_reducible refine wpAny_BinOp ?_
        with_reducible refine Subscript_ ?_
        (with_reducible refine' rd ?ka ?kb ?_ ?kc ?kd ?ke); (case ka => with_reducible assumption); (case kb => walk_at "look"); (case kc => rfl); (case kd => rfl); (case ke => decide)
        (with_reducible refine' rd ?ka ?kb ?_ ?kc ?kd ?ke); (case ka => with_reducible assumption); (case kb => walk_at "look"); (case kc => rfl); (case kd => rfl); (case ke => decide)
        rename_i h₂₂ t₂₂ HS
        clear S₂₂
        obtain ⟨tz, hz⟩ := ints_at HI (i := b) hbl
        refine' itemO ?S ?hm HL (by omega) HZ (by simpa using hz) ?_
        case S => with_reducible assumption
        case hm => walk_at "mem"
        (with_reducible refine cInt ?_); intro _ _
        (with_reducible refine addI ?_); intro _ _
        (with_reducible refine' rd ?ka ?kb ?_ ?kc ?kd ?ke); (case ka => with_reducible assumption); (case kb => walk_at "look"); (case kc => rfl); (case kd => rfl); (case ke => decide)
        (with_reducible refine' rd ?ka ?kb ?_ ?kc ?kd ?ke); (case ka => with_reducible assumption); (case kb => walk_at "look"); (case kc => rfl); (case kd => rfl); (case ke => decide)
        refine' setO (pre := [(I, oI)]) (post := [(x, instObj 83 dx), (dx, DX)]) HS HL (by omega) HZ (by rw [HVL]; simpa using hbl) (fun h₂₃ ob' hL' S₂₃ => ?_)
        have S₂₃' : St h L' _ ((I, oI) :: ([] ++ [(_, ob'), (x, instObj 83 dx), (dx, DX)])) h₂₃ := S₂₃
        clear S₂₃ HS
        with_reducible refine wpAny_execs_cons ?_
        (with_reducible refine wpAny_Assign_Name ?_ ?ka); (case ka => rfl)
        (with_reducible refine cInt ?_); intro _ _
        (with_reducible refine' sto ?ka ?_ ?kb ?kc); (case ka => with_reducible assumption); (case kb => rfl); (case kc => rfl); intro _ _ _
        with_reducible refine wpAny_execs_nil ?_
        with_reducible refine wpAny_execs_nil ?_
        with_reducible refine wpAny_execs_nil ?_
        subst hJ
        exact ⟨_, _, _, _, rfl, by assumption, _, ob', _, 0, n + 1, nt + 1, bump c b, _, _, _, rfl, hL', by rw [HB]; simpa using ints_set HI _ _ _, by omega, by rw [HB, List.length_set]; omega, e, by walk_at "look", by walk_at "look", by walk_at "look", by walk_at "look", by walk_at "look", by walk_at "look", by walk_at "look"⟩
      · rw [if_neg (by simpa using hge)]
        have HB : bump c b = c.set b (c.getD b 0 + 1) := by unfold bump; simp only [hge, if_false]
        have hbl : b < c.length := by omega
        have hcl : c.length ≤ i + 1 := by omega
        have HI := hI
        have HL := hL
        have HVL := HI.length
        have HZ := hvz
        with_reducible refine wpAny_execs_nil ?_
        with_reducible refine wpAny_execs_cons ?_
        (with_reducible refine wpAny_Assign_Subscript ?_ ?ka); (case ka => rfl)
        with_reducible refine wpAny_BinOp ?_
        with_reducible refine Subscript_ ?_
        (with_reducible refine' rd ?ka ?kb ?_ ?kc ?kd ?ke); (case ka => with_reducible assumption); (case kb => walk_at "look"); (case kc => rfl); (case kd => rfl); (case ke => decide)
        (with_reducible refine' rd ?ka ?kb ?_ ?kc ?kd ?ke); (case ka => with_reducible assumption); (case kb => walk_at "look"); (case kc => rfl); (case kd => rfl); (case ke => decide)
        rename_i h₂₂ t₂₂ HS
        obtain ⟨tz, hz⟩ := ints_at HI (i := b) hbl
        refine' itemO ?S ?hm HL (by omega) HZ (by simpa using hz) ?_
        case S => with_reducible assumption
        case hm => walk_at "mem"
        (with_reducible refine cInt ?_); intro _ _
        (with_reducible refine addI ?_); intro _ _
        (with_reducible refine' rd ?ka ?kb ?_ ?kc ?kd ?ke); (case ka => with_reducible assumption); (case kb => walk_at "look"); (case kc => rfl); (case kd => rfl); (case ke => decide)
        (with_reducible refine' rd ?ka ?kb ?_ ?kc ?kd ?ke); (case ka => with_reducible assumption); (case kb => walk_at "look"); (case kc => rfl); (case kd => rfl); (case ke => decide)
        refine' setO (pre := [(I, oI)]) (post := [(x, instObj 83 dx), (dx, DX)]) HS HL (by omega) HZ (by rw [HVL]; simpa using hbl) (fun h₂₃ ob' hL' S₂₃ => ?_)
        have S₂₃' : St h L' _ ((I, oI) :: ([] ++ [(_, ob'), (x, instObj 83 dx), (dx, DX)])) h₂₃ := S₂₃
        clear S₂₃ HS
        with_reducible refine wpAny_execs_cons ?_
        (with_reducible refine wpAny_Assign_Name ?_ ?ka); (case ka => rfl)
        (with_reducible refine cInt ?_); intro _ _
        (with_reducible refine' sto ?ka ?_ ?kb ?kc); (case ka => with_reducible assumption); (case kb => rfl); (case kc => rfl); intro _ _ _
        with_reducible refine wpAny_execs_nil ?_
        with_reducible refine wpAny_execs_nil ?_
        with_reducible refine wpAny_execs_nil ?_
        subst hJ
        exact ⟨_, _, _, _, rfl, by assumption, _, ob', _, 0, n + 1, nt + 1, bump c b, _, _, _, rfl, hL', by rw [HB]; simpa using ints_set HI _ _ _, by omega, by rw [HB, List.length_set]; omega, e, by walk_at "look", by walk_at "look", by walk_at "look", by walk_at "look", by walk_at "look", by walk_at "look", by walk_at "look"⟩
    · rw [if_neg (by simpa using h2)]
      rw [if_neg h2] at e
      with_reducible refine wpAny_execs_cons ?_
      refine wpAny_Break ?_
      subst hX
      exact ⟨rfl, _, _, _, lc, ob, vs, b, n, nt, c, _, _, _, rfl, S.sub (by walk_at "subl"), hL, hI, e.symm, by omega, by walk_at "look", by walk_at "look", by walk_at "look", by walk_at "look", by walk_at "look"⟩
  · rintro m os h₈ t hj S
    rw [hJ] at hj
    obtain ⟨lc, ob, vs, b, n, nt, c, tb, tn, tnt, rfl, hL, hI, hb, hc, e, m1, m2, m3, m4, m5, m6, m7⟩ := hj
    have e0 : raw.cps.toList.drop raw.cps.size = [] := by simp
    rw [e0] at e
    subst hX
    exact ⟨rfl, _, _, _, lc, ob, vs, b, n, nt, c, tb, tn, tnt, rfl, S, hL, hI, e.symm, by omega, m1, m2, m3, m4, m5⟩
  · intro r s' z
    cases r with
    | error e => exact z
    | ok f =>
    have z : X f s' := z
    rw [hX] at z
    obtain ⟨rfl, h₉, t₉, m, lc, ob, vs, b, n, nt, c, tb, tn, tnt, rfl, S, hL, hI, e, hc, m1, m2, m3, m4, m5⟩ := z
    have hvl : vs.length = c.length := hI.length
    have hvz : vs.length ≤ sizeLine := by rw [sizeLine_eq]; omega
    subst hDX
    with_reducible refine wpAny_execs_cons ?_
    (with_reducible refine plainObj_wpAny_Assign_Attribute ?_ ?ka); (case ka => with_unfolding_all rfl)
    (with_reducible refine' rd ?ka ?kb ?_ ?kc ?kd ?ke); (case ka => with_reducible assumption); (case kb => walk_at "look"); (case kc => rfl); (case kd => rfl); (case ke => decide)
    (with_reducible refine' rd ?ka ?kb ?_ ?kc ?kd ?ke); (case ka => with_reducible assumption); (case kb => walk_at "look"); (case kc => rfl); (case kd => rfl); (case ke => decide)
    refine' setA (pre := [(lc, ob), (x, instObj 83 dx)]) (post := []) C S ?h1 ?hs ?hp ?ht ?hd ?hl ?hz (fun h₁₀ t₁₀ u₁₀ S₁₀ => ?_)
    case h1 => walk_at "mem"
    case hs => exact rfl
    case hp => exact rfl
    case ht => exact rfl
    case hd => exact rfl
    case hl => exact rfl
    case hz => exact Nat.le_of_ble_eq_true rfl
    have S₁₀' : St h L' _ [(lc, ob), (x, instObj 83 dx), (dx, dictOf _ _)] h₁₀ := S₁₀
    clear S₁₀ S
    with_reducible refine wpAny_execs_cons ?_
    (with_reducible refine plainObj_wpAny_Assign_Attribute ?_ ?ka); (case ka => with_unfolding_all rfl)
    (with_reducible refine' rd ?ka ?kb ?_ ?kc ?kd ?ke); (case ka => with_reducible assumption); (case kb => walk_at "look"); (case kc => rfl); (case kd => rfl); (case ke => decide)
    (with_reducible refine' rd ?ka ?kb ?_ ?kc ?kd ?ke); (case ka => with_reducible assumption); (case kb => walk_at "look"); (case kc => rfl); (case kd => rfl); (case ke => decide)
    refine' setA (pre := [(lc, ob), (x, instObj 83 dx)]) (post := []) C S₁₀' ?h1 ?hs ?hp ?ht ?hd ?hl ?hz (fun h₁₁ t₁₁ u₁₁ S₁₁ => ?_)
    case h1 => walk_at "mem"
    case hs => exact rfl
    case hp => exact rfl
    case ht => exact rfl
    case hd => exact rfl
    case hl => exact rfl
    case hz => exact Nat.le_of_ble_eq_true rfl
    have S₁₁' : St h L' _ [(lc, ob), (x, instObj 83 dx), (dx, dictOf _ _)] h₁₁ := S₁₁
    clear S₁₁ S₁₀'
    with_reducible refine wpAny_execs_cons ?_
    (with_reducible refine plainObj_wpAny_Assign_Attribute ?_ ?ka); (case ka => with_unfolding_all rfl)
    with_reducible refine Tuple_ ?_
    (with_reducible refine spliced_more ?_ ?ka); (case ka => rfl)
    (with_reducible refine Call_ ?_ ?ka); (case ka => rfl)
    (with_reducible refine' rdB ?ka ?kb ?kc ?kd ?_ ?ke ?kf ?kg ?kh); (case ka => with_reducible assumption); (case kb => with_reducible assumption); (case kc => first | with_reducible exact gb0 _ | with_reducible exact gb1 _ | with_reducible exact gb2 _ | with_reducible exact gb3 _ | with_reducible exact gb4 _); (case kd => first | exact boot_len | exact boot_range | exact boot_enumerate | exact boot_tuple | exact boot_sum); (case ke => decide); (case kf => rfl); (case kg => rfl); (case kh => decide)
    (with_reducible refine callWith_type1 ?_ ?ka ?kb); (case ka => rfl); (case kb => rfl)
    (with_reducible refine spliced_more ?_ ?ka); (case ka => rfl)
    (with_reducible refine' rd ?ka ?kb ?_ ?kc ?kd ?ke); (case ka => with_reducible assumption); (case kb => walk_at "look"); (case kc => rfl); (case kd => rfl); (case ke => decide)
    with_reducible refine spliced_none ?_
    refine' tupO S₁₁' ?hm hL hvz (fun h₁₂ l₁₂ S₁₂ => ?_)
    case hm => walk_at "mem"
    clear S₁₁'
    (with_reducible refine spliced_more ?_ ?ka); (case ka => rfl)
    (with_reducible refine' rd ?ka ?kb ?_ ?kc ?kd ?ke); (case ka => with_reducible assumption); (case kb => walk_at "look"); (case kc => rfl); (case kd => rfl); (case ke => decide)
    with_reducible refine spliced_none ?_
    (with_reducible refine' newT ?ka ?_ ?kb); (case ka => with_reducible assumption); (case kb => walk_at "sz"); intro _ _ _ _
    (with_reducible refine' rd ?ka ?kb ?_ ?kc ?kd ?ke); (case ka => with_reducible assumption); (case kb => walk_at "look"); (case kc => rfl); (case kd => rfl); (case ke => decide)
    rename_i h₁₃ l₁₃ S₁₃ f₁₃
    clear S₁₂
    refine' setA (pre := [(l₁₃, _), (l₁₂, tob vs), (lc, ob), (x, instObj 83 dx)]) (post := []) C S₁₃ ?h1 ?hs ?hp ?ht ?hd ?hl ?hz (fun h₁₄ t₁₄ u₁₄ S₁₄ => ?_)
    case h1 => walk_at "mem"
    case hs => exact rfl
    case hp => exact rfl
    case ht => exact rfl
    case hd => exact rfl
    case hl => exact rfl
    case hz => exact Nat.le_of_ble_eq_true rfl
    have S₁₄' : St h L' _ [(l₁₃, _), (l₁₂, tob vs), (lc, ob), (x, instObj 83 dx), (dx, dictOf _ _)] h₁₄ := S₁₄
    clear S₁₄ S₁₃
    with_reducible refine wpAny_execs_cons ?_
    (with_reducible refine plainObj_wpAny_Assign_Attribute ?_ ?ka); (case ka => with_unfolding_all rfl)
    (with_reducible refine wpAny_Compare1 ?_ ?ka); (case ka => with_unfolding_all rfl)
    (with_reducible refine Call_ ?_ ?ka); (case ka => rfl)
    (with_reducible refine' rdB ?ka ?kb ?kc ?kd ?_ ?ke ?kf ?kg ?kh); (case ka => with_reducible assumption); (case kb => with_reducible assumption); (case kc => first | with_reducible exact gb0 _ | with_reducible exact gb1 _ | with_reducible exact gb2 _ | with_reducible exact gb3 _ | with_reducible exact gb4 _); (case kd => first | exact boot_len | exact boot_range | exact boot_enumerate | exact boot_tuple | exact boot_sum); (case ke => decide); (case kf => rfl); (case kg => rfl); (case kh => decide)
    (with_reducible refine callWith_builtin1 ?_ ?ka ?kb); (case ka => rfl); (case kb => rfl)
    (with_reducible refine spliced_more ?_ ?ka); (case ka => rfl)
    (with_reducible refine' rd ?ka ?kb ?_ ?kc ?kd ?ke); (case ka => with_reducible assumption); (case kb => walk_at "look"); (case kc => rfl); (case kd => rfl); (case ke => decide)
    with_reducible refine spliced_none ?_
    refine' lenO S₁₄' ?hm hL hvz (fun t₁₅ u₁₅ => ?_)
    case hm => walk_at "mem"
    (with_reducible refine cInt ?_); intro _ _
    with_reducible refine leI ?_
    (with_reducible refine' rd ?ka ?kb ?_ ?kc ?kd ?ke); (case ka => with_reducible assumption); (case kb => walk_at "look"); (case kc => rfl); (case kd => rfl); (case ke => decide)
    refine' setA (pre := [(l₁₃, _), (l₁₂, tob vs), (lc, ob), (x, instObj 83 dx)]) (post := []) C S₁₄' ?h1 ?hs ?hp ?ht ?hd ?hl ?hz (fun h₁₆ t₁₆ u₁₆ S₁₆ => ?_)
    case h1 => walk_at "mem"
    case hs => exact rfl
    case hp => exact rfl
    case ht => exact rfl
    case hd => exact rfl
    case hl => exact rfl
    case hz => exact Nat.le_of_ble_eq_true rfl
    have S₁₆' : St h L' _ [(l₁₃, _), (l₁₂, tob vs), (lc, ob), (x, instObj 83 dx), (dx, dictOf _ _)] h₁₆ := S₁₆
    clear S₁₆ S₁₄'
    with_reducible refine wpAny_execs_nil ?_
    rw [e] at q
    refine' ⟨rfl, q _ _ x L' _ _ S₁₆' ⟨⟨dx, _, _, l₁₃, l₁₂, vs, tn, tnt, tb, ?a1, ?a2, ?a3, ?a4, ?a5, ?a6, ?a7, ?a8, hI⟩⟩⟩
    case a1 => walk_at "mem"
    case a2 => walk_at "mem"
    case a3 => exact rfl
    case a4 => exact rfl
    case a5 => exact rfl
    case a6 => exact rfl
    case a7 => walk_at "mem"
    case a8 => walk_at "mem"
end
section
variable {prog : Program} {w : World} {A : Around} {E : Value → Shared → Prop} {h₀ h : Heap} {L : Addr} {m : Str → Option Value} {pre post os : List (Addr × Obj)} {gs : Array GenState} {dr : Drawn} {t : Nat} {o : OsState} {pos : Pos} {env : Env} {Q : Value → Shared → Prop} {x dx : Addr} {n nt b : Int} {cnt : List Int}
theorem ws_call {raw : Str} {tw : Tok} (C : Cx w h₀) (S : St h₀ L m os h) (hroom : A.depth + 5 < recursionLimit) (hh : A.handled = none) (hx : raw.length ≤ 100)
    (q : ∀ h' t' x ads, St h₀ L m (ads ++ os) h' → WsAt ads x (wsM raw).2.1 (wsM raw).2.2.1 (wsM raw).2.2.2 (wsM raw).1 → Q (.ref x) ⟨h', gs, dr, t', o⟩) :
    wpAny (model prog w) A (call (.ref 83) [.str raw tw]) Q E ⟨h, gs, dr, t, o⟩ :=
  ws_spec (C.keeps S.F.keep) hroom hh hx (fun h' t' x _ _ ads S' W => q h' t' x ads (S.adopt S') W)
theorem wsN {expr : Bool} (C : Cx w h₀) (S : St h₀ L m os h) (W : WsAt os x n nt cnt b) (q : ∀ t' u, Q (.int n u) ⟨h, gs, dr, t', o⟩) : wpAny (model prog w) A (getAttr (.ref x) (Str.ofString "n") expr) Q E ⟨h, gs, dr, t, o⟩ := by
  obtain ⟨⟨dx, es, k, tn, tc, vs, t1, t2, t3, a1, a2, a3, a4, a5, a6, a7, a8, a9⟩⟩ := W
  exact getA (attr := none) C S a1 a2 rfl rfl rfl rfl a3 rfl (fun t' => q t' _)
theorem wsT {expr : Bool} (C : Cx w h₀) (S : St h₀ L m os h) (W : WsAt os x n nt cnt b) (q : ∀ t' u, Q (.int nt u) ⟨h, gs, dr, t', o⟩) : wpAny (model prog w) A (getAttr (.ref x) (Str.ofString "nt") expr) Q E ⟨h, gs, dr, t, o⟩ := by
  obtain ⟨⟨dx, es, k, tn, tc, vs, t1, t2, t3, a1, a2, a3, a4, a5, a6, a7, a8, a9⟩⟩ := W
  exact getA (attr := none) C S a1 a2 rfl rfl rfl rfl a4 rfl (fun t' => q t' _)
end
noncomputable def leadGo (x : Str) (nt : Int) : Nat → Nat → Str → Option Str
  | 0, _, r => some r
  | n + 1, i, r =>
    if 100 < r.length then none else
    if (Txt.item x (i : Int) == Str.ofString "\t") = true then
      if ¬ (-100 ≤ ((wsM (Txt.slice x (some ((i : Int) + 1)) none ++ Str.ofString "x")).2.1 : Int) - 2 * ((wsM (Txt.slice x (some ((i : Int) + 1)) none ++ Str.ofString "x")).2.2.1 : Int) + nt ∧ ((wsM (Txt.slice x (some ((i : Int) + 1)) none ++ Str.ofString "x")).2.1 : Int) - 2 * ((wsM (Txt.slice x (some ((i : Int) + 1)) none ++ Str.ofString "x")).2.2.1 : Int) + nt ≤ 100) then none else
      leadGo x nt n (i + 1) (r ++ (Txt.mul (Str.ofString " ") (((wsM (Txt.slice x (some ((i : Int) + 1)) none ++ Str.ofString "x")).2.1 : Int) - 2 * ((wsM (Txt.slice x (some ((i : Int) + 1)) none ++ Str.ofString "x")).2.2.1 : Int) + nt) ++ Str.ofString "\t"))
    else leadGo x nt n (i + 1) r
noncomputable def leadRaw (x : Str) : Option Str :=
  if 99 < x.length then none else
  match leadGo x (wsM (x ++ Str.ofString "x")).2.2.1 x.length 0 (Str.ofString "") with
  | none => none
  | some r => if ¬ (-100 ≤ ((wsM (x ++ Str.ofString "x")).2.1 : Int) - (wsM (x ++ Str.ofString "x")).2.2.1 ∧ ((wsM (x ++ Str.ofString "x")).2.1 : Int) - (wsM (x ++ Str.ofString "x")).2.2.1 ≤ 100) then none else
    if 100 < (r ++ Txt.mul (Str.ofString " ") (((wsM (x ++ Str.ofString "x")).2.1 : Int) - (wsM (x ++ Str.ofString "x")).2.2.1) ++ Str.ofString "x").length ∨ 100 < r.length then none else
    some (r ++ Txt.mul (Str.ofString " ") (((wsM (x ++ Str.ofString "x")).2.1 : Int) - (wsM (x ++ Str.ofString "x")).2.2.1) ++ Str.ofString "x")
section
variable {prog : Program} {w : World} {A : Around} {E : Value → Shared → Prop} {h : Heap} {gs : Array GenState} {dr : Drawn} {t : Nat} {o : OsState} {Q : Value → Shared → Prop}
theorem lead_spec {x raw : Str} {tx : Tok} (C : Cx w h) (hroom : A.depth + 6 < recursionLimit) (hh : A.handled = none) (hr : leadRaw x = some raw)
    (q : ∀ h' t' a L' m' ads, St h L' m' ads h' → WsAt ads a (wsM raw).2.1 (wsM raw).2.2.1 (wsM raw).2.2.2 (wsM raw).1 → Q (.ref a) ⟨h', gs, dr, t', o⟩) :
    wpAny (model prog w) A (call (.ref 136) [.str x tx]) Q E ⟨h, gs, dr, t, o⟩ := by
  unfold leadRaw at hr
  split at hr
  · cases hr
  next hx =>
  have hx' : x.length ≤ sizeLine := by rw [sizeLine_eq]; omega
  have hxx : (Str.ofString "x").length = 1 := by decide +kernel
  have hsp : (Str.ofString " ").length = 1 := by decide +kernel
  have htab : (Str.ofString "\t").length = 1 := by decide +kernel
  have hlen0 : (Str.ofString "").length = 0 := by decide +kernel
  generalize hW : wsM (x ++ Str.ofString "x") = W0 at hr
  cases hg : leadGo x W0.2.2.1 x.length 0 (Str.ofString "") with
  | none => rw [hg] at hr; cases hr
  | some r =>
  rw [hg] at hr
  dsimp only at hr
  split at hr
  · cases hr
  next hb =>
  have hb' := Decidable.of_not_not hb
  split at hr
  · cases hr
  next hrl =>
  have hraw := Option.some.inj hr
  clear hr
  refine call_fn (binds := [(Str.ofString "word", .str x tx)]) C rfl rfl (by omega) rfl rfl (fun h₁ t S => ?_)
  with_reducible refine wpAny_execs_cons ?_
  (with_reducible refine wpAny_Assign_Name ?_ ?ka); (case ka => rfl)
  (with_reducible refine Call_ ?_ ?ka); (case ka => rfl)
  (with_reducible refine' rdG ?ka ?kb ?kc ?_ ?kd ?ke ?kf); (case ka => with_reducible assumption); (case kb => with_reducible assumption); (case kc => first | with_reducible exact gl0 _ | with_reducible exact gl1 _ | with_reducible exact gl2 _ | with_reducible exact gl3 _ | with_reducible exact gl4 _ | with_reducible exact gl5 _ | with_reducible exact gl6 _ | with_reducible exact gl7 _ | with_reducible exact gl8 _ | with_reducible exact gl9 _); (case kd => rfl); (case ke => rfl); (case kf => decide)
  (with_reducible refine' cwf ?ka ?kb ?_ ?kc ?kd); (case ka => with_reducible assumption); (case kb => exact rfl); (case kc => rfl); (case kd => rfl)
  (with_reducible refine spliced_more ?_ ?ka); (case ka => rfl)
  with_reducible refine wpAny_BinOp ?_
  (with_reducible refine' rd ?ka ?kb ?_ ?kc ?kd ?ke); (case ka => with_reducible assumption); (case kb => walk_at "look"); (case kc => rfl); (case kd => rfl); (case ke => decide)
  (with_reducible refine cStr ?_); intro _ _
  (with_reducible refine addS ?ka ?_); (case ka => rw [sizeLine_eq]; (try simp only [Str.length_append]); omega); intro _ _
  with_reducible refine spliced_none ?_
  (with_reducible refine' And.intro (inK ?ka ?kb) ?_); (case ka => with_reducible assumption); (case kb => with_reducible assumption)
  refine' ws_call C ?S ?hr ?hh ?hx (fun h₂ t₂ a₂ ads S₂ W => ?_)
  case S => with_reducible assumption
  case hr => show A.depth + 1 + 5 < _; omega
  case hh => exact hh
  case hx => rw [Str.length_append]; omega
  rw [hW] at W
  clear S
  (with_reducible refine' sto ?ka ?_ ?kb ?kc); (case ka => with_reducible assumption); (case kb => rfl); (case kc => rfl); intro _ _ _
  with_reducible refine wpAny_execs_cons ?_
  (with_reducible refine wpAny_Assign_Name ?_ ?ka); (case ka => rfl)
  (with_reducible refine cStr ?_); intro _ _
  (with_reducible refine' sto ?ka ?_ ?kb ?kc); (case ka => with_reducible assumption); (case kb => rfl); (case kc => rfl); intro _ _ _
  with_reducible refine wpAny_execs_cons ?_
  (with_reducible refine' wpAny_For ?_ ?ka); (case ka => intro _; rfl)
  (with_reducible refine Call_ ?_ ?ka); (case ka => rfl)
  (with_reducible refine' rdB ?ka ?kb ?kc ?kd ?_ ?ke ?kf ?kg ?kh); (case ka => with_reducible assumption); (case kb => with_reducible assumption); (case kc => first | with_reducible exact gb0 _ | with_reducible exact gb1 _ | with_reducible exact gb2 _ | with_reducible exact gb3 _ | with_reducible exact gb4 _); (case kd => first | exact boot_len | exact boot_range | exact boot_enumerate | exact boot_tuple | exact boot_sum); (case ke => decide); (case kf => rfl); (case kg => rfl); (case kh => decide)
  (with_reducible refine callWith_type1 ?_ ?ka ?kb); (case ka => rfl); (case kb => rfl)
  (with_reducible refine spliced_more ?_ ?ka); (case ka => rfl)
  (with_reducible refine Call_ ?_ ?ka); (case ka => rfl)
  (with_reducible refine' rdB ?ka ?kb ?kc ?kd ?_ ?ke ?kf ?kg ?kh); (case ka => with_reducible assumption); (case kb => with_reducible assumption); (case kc => first | with_reducible exact gb0 _ | with_reducible exact gb1 _ | with_reducible exact gb2 _ | with_reducible exact gb3 _ | with_reducible exact gb4 _); (case kd => first | exact boot_len | exact boot_range | exact boot_enumerate | exact boot_tuple | exact boot_sum); (case ke => decide); (case kf => rfl); (case kg => rfl); (case kh => decide)
  (with_reducible refine callWith_builtin1 ?_ ?ka ?kb); (case ka => rfl); (case kb => rfl)
  (with_reducible refine spliced_more ?_ ?ka); (case ka => rfl)
  (with_reducible refine' rd ?ka ?kb ?_ ?kc ?kd ?ke); (case ka => with_reducible assumption); (case kb => walk_at "look"); (case kc => rfl); (case kd => rfl); (case ke => decide)
  with_reducible refine spliced_none ?_
  (with_reducible refine lenS ?ka ?_); (case ka => with_reducible assumption); intro _ _
  with_reducible refine spliced_none ?_
  refine' rng1 ?S (by omega) (by omega) (fun I oI h₃ t₃ S₃ wt => ?_)
  case S => with_reducible assumption
  refine for_loop (con := ads ++ []) (os := []) (Walks.range (by exact hh) I 0 1 x.length) (fun i h wt => ⟨_, wt⟩) (fun b hb => .inl (List.mem_singleton.mp hb))
    (fun i m os => os = [] ∧ ∃ r₁ tr, leadGo x W0.2.2.1 (x.length - i) i r₁ = some r ∧ m (Str.ofString "runs") = some (.str r₁ tr) ∧ m (Str.ofString "whole") = some (.ref a₂) ∧ m (Str.ofString "word") = some (.str x tx))
    ?_ ?_ (by simpa using S₃) wt ⟨rfl, _, _, hg, by walk_at "look", by walk_at "look", by walk_at "look"⟩
  · rintro i m os v oI h t hi ⟨tk, rfl⟩ ⟨rfl, r₁, tr, e, m1, m2, m3⟩ S
    have ei : (0 : Int) + (i : Int) * 1 = i := by omega
    rw [ei] at S
    obtain ⟨k, hk⟩ : ∃ k, x.length - i = k + 1 := ⟨x.length - i - 1, by omega⟩
    have hk' : x.length - (i + 1) = k := by omega
    rw [hk] at e
    unfold leadGo at e
    split at e
    · cases e
    next hr1 =>
    with_reducible refine wpAny_execs_cons ?_
    with_reducible refine wpAny_If ?_
    (with_reducible refine wpAny_isTrue_Compare1 ?_ ?ka); (case ka => with_unfolding_all rfl)
    with_reducible refine Subscript_ ?_
    (with_reducible refine' rd ?ka ?kb ?_ ?kc ?kd ?ke); (case ka => with_reducible assumption); (case kb => walk_at "look"); (case kc => rfl); (case kd => rfl); (case ke => decide)
    (with_reducible refine' rd ?ka ?kb ?_ ?kc ?kd ?ke); (case ka => with_reducible assumption); (case kb => walk_at "look"); (case kc => rfl); (case kd => rfl); (case ke => decide)
    refine itemS (by omega) (by omega) hx' (fun t₄ u₄ => ?_)
    (with_reducible refine cStr ?_); intro _ _
    with_reducible refine eqS ?_
    with_reducible refine trB ?_
    by_cases hc : (Txt.item x (i : Int) == Str.ofString "\t") = true
    · rw [if_pos hc] at e ⊢
      generalize hR : wsM (Txt.slice x (some ((i : Int) + 1)) none ++ Str.ofString "x") = R0 at e
      split at e
      · cases e
      next hb2 =>
      have hb3 := Decidable.of_not_not hb2
      have z1 := Txt.slice_le x (some ((i : Int) + 1)) none
      with_reducible refine wpAny_execs_cons ?_
      (with_reducible refine wpAny_Assign_Name ?_ ?ka); (case ka => rfl)
      (with_reducible refine Call_ ?_ ?ka); (case ka => rfl)
      (with_reducible refine' rdG ?ka ?kb ?kc ?_ ?kd ?ke ?kf); (case ka => with_reducible assumption); (case kb => with_reducible assumption); (case kc => first | with_reducible exact gl0 _ | with_reducible exact gl1 _ | with_reducible exact gl2 _ | with_reducible exact gl3 _ | with_reducible exact gl4 _ | with_reducible exact gl5 _ | with_reducible exact gl6 _ | with_reducible exact gl7 _ | with_reducible exact gl8 _ | with_reducible exact gl9 _); (case kd => rfl); (case ke => rfl); (case kf => decide)
      (with_reducible refine' cwf ?ka ?kb ?_ ?kc ?kd); (case ka => with_reducible assumption); (case kb => exact rfl); (case kc => rfl); (case kd => rfl)
      (with_reducible refine spliced_more ?_ ?ka); (case ka => rfl)
      with_reducible refine wpAny_BinOp ?_
      with_reducible refine Subscript_ ?_
      (with_reducible refine' rd ?ka ?kb ?_ ?kc ?kd ?ke); (case ka => with_reducible assumption); (case kb => walk_at "look"); (case kc => rfl); (case kd => rfl); (case ke => decide)
      with_reducible refine wpAny_Slice ?_
      with_reducible refine evalPart_some_step ?_
      with_reducible refine wpAny_BinOp ?_
      (with_reducible refine' rd ?ka ?kb ?_ ?kc ?kd ?ke); (case ka => with_reducible assumption); (case kb => walk_at "look"); (case kc => rfl); (case kd => rfl); (case ke => decide)
      (with_reducible refine cInt ?_); intro _ _
      (with_reducible refine addI ?_); intro _ _
      with_reducible refine evalPart_none_step ?_
      with_reducible refine evalPart_none_step ?_
      (with_reducible refine' sliceSN ?ka ?kb ?_ ?kc ?kd); (case ka => with_reducible assumption); (case kb => walk_at "sz"); (case kc => with_unfolding_all rfl); (case kd => intro _; with_unfolding_all rfl); intro _ _ _ _
      (with_reducible refine cStr ?_); intro _ _
      (with_reducible refine addS ?ka ?_); (case ka => rw [sizeLine_eq]; (try simp only [Str.length_append]); omega); intro _ _
      with_reducible refine spliced_none ?_
      (with_reducible refine' And.intro (inK ?ka ?kb) ?_); (case ka => with_reducible assumption); (case kb => with_reducible assumption)
      refine' ws_call C ?S ?hr ?hh ?hx (fun h₅ t₅ a₅ ads₅ S₅ W₅ => ?_)
      case S => with_reducible assumption
      case hr => show A.depth + 1 + 5 < _; omega
      case hh => exact hh
      case hx => rw [Str.length_append]; omega
      rw [hR] at W₅
      clear S
      (with_reducible refine' sto ?ka ?_ ?kb ?kc); (case ka => with_reducible assumption); (case kb => rfl); (case kc => rfl); intro _ _ _
      with_reducible refine wpAny_execs_cons ?_
      with_reducible refine wpAny_AugAssign_Name ?_
      (with_reducible refine' rdn ?ka ?kb ?_ ?kc ?kd); (case ka => with_reducible assumption); (case kb => walk_at "look"); (case kc => rfl); (case kd => rfl)
      with_reducible refine wpAny_BinOp ?_
      with_reducible refine wpAny_BinOp ?_
      (with_reducible refine cStr ?_); intro _ _
      with_reducible refine wpAny_BinOp ?_
      with_reducible refine wpAny_BinOp ?_
      (with_reducible refine Attribute_any_ ?_ ?ka); (case ka => with_unfolding_all rfl)
      (with_reducible refine' rd ?ka ?kb ?_ ?kc ?kd ?ke); (case ka => with_reducible assumption); (case kb => walk_at "look"); (case kc => rfl); (case kd => rfl); (case ke => decide)
      refine' wsN C ?S ?W (fun t₆ u₆ => ?_)
      case S => with_reducible assumption
      case W => exact W₅.mono (fun p hp => List.mem_append_left _ hp)
      with_reducible refine wpAny_BinOp ?_
      (with_reducible refine cInt ?_); intro _ _
      (with_reducible refine Attribute_any_ ?_ ?ka); (case ka => with_unfolding_all rfl)
      (with_reducible refine' rd ?ka ?kb ?_ ?kc ?kd ?ke); (case ka => with_reducible assumption); (case kb => walk_at "look"); (case kc => rfl); (case kd => rfl); (case ke => decide)
      refine' wsT C ?S ?W (fun t₇ u₇ => ?_)
      case S => with_reducible assumption
      case W => exact W₅.mono (fun p hp => List.mem_append_left _ hp)
      refine mulI (IntMulOk.of_left (by decide)) (fun t₈ u₈ => ?_)
      (with_reducible refine subI ?_); intro _ _
      (with_reducible refine Attribute_any_ ?_ ?ka); (case ka => with_unfolding_all rfl)
      (with_reducible refine' rd ?ka ?kb ?_ ?kc ?kd ?ke); (case ka => with_reducible assumption); (case kb => walk_at "look"); (case kc => rfl); (case kd => rfl); (case ke => decide)
      refine' wsT C ?S ?W (fun t₉ u₉ => ?_)
      case S => with_reducible assumption
      case W => exact W.mono (fun p hp => List.mem_append_right _ (.tail _ (List.mem_append_left _ (List.mem_append_left _ hp))))
      (with_reducible refine addI ?_); intro _ _
      have hml := mul_len hsp hb3.2
      refine mulS (mulOk1 hsp hb3.1 hb3.2) (fun t₁₀ u₁₀ => ?_)
      (with_reducible refine cStr ?_); intro _ _
      (with_reducible refine addS ?ka ?_); (case ka => rw [sizeLine_eq]; (try simp only [Str.length_append]); omega); intro _ _
      (with_reducible refine iaddS ?ka ?_); (case ka => rw [sizeLine_eq]; (try simp only [Str.length_append]); omega); intro _ _
      (with_reducible refine' sto ?ka ?_ ?kb ?kc); (case ka => with_reducible assumption); (case kb => rfl); (case kc => rfl); intro _ _ _
      with_reducible refine wpAny_execs_nil ?_
      with_reducible refine wpAny_execs_nil ?_
      rename_i h₁₁ t₁₁ S₁₁
      exact ⟨_, [], _, _, rfl, S₁₁.sub (List.sublist_append_right _ _), rfl, _, _, by rw [hk']; exact e, by walk_at "look", by walk_at "look", by walk_at "look"⟩
    · rw [if_neg hc] at e ⊢
      with_reducible refine wpAny_execs_nil ?_
      with_reducible refine wpAny_execs_nil ?_
      exact ⟨_, [], _, _, rfl, by assumption, rfl, _, _, by rw [hk']; exact e, by walk_at "look", by walk_at "look", by walk_at "look"⟩
  · rintro m os h t ⟨rfl, r₁, tr, e, m1, m2, m3⟩ S
    rw [Nat.sub_self] at e
    cases e
    have W' := W.mono (os' := ads ++ []) (fun p hp => List.mem_append_left _ hp)
    have hml := mul_len hsp hb'.2
    with_reducible refine wpAny_execs_cons ?_
    with_reducible refine wpAny_Return_some ?_
    (with_reducible refine Call_ ?_ ?ka); (case ka => rfl)
    (with_reducible refine' rdG ?ka ?kb ?kc ?_ ?kd ?ke ?kf); (case ka => with_reducible assumption); (case kb => with_reducible assumption); (case kc => first | with_reducible exact gl0 _ | with_reducible exact gl1 _ | with_reducible exact gl2 _ | with_reducible exact gl3 _ | with_reducible exact gl4 _ | with_reducible exact gl5 _ | with_reducible exact gl6 _ | with_reducible exact gl7 _ | with_reducible exact gl8 _ | with_reducible exact gl9 _); (case kd => rfl); (case ke => rfl); (case kf => decide)
    (with_reducible refine' cwf ?ka ?kb ?_ ?kc ?kd); (case ka => with_reducible assumption); (case kb => exact rfl); (case kc => rfl); (case kd => rfl)
    (with_reducible refine spliced_more ?_ ?ka); (case ka => rfl)
    with_reducible refine wpAny_BinOp ?_
    with_reducible refine wpAny_BinOp ?_
    (with_reducible refine' rd ?ka ?kb ?_ ?kc ?kd ?ke); (case ka => with_reducible assumption); (case kb => walk_at "look"); (case kc => rfl); (case kd => rfl); (case ke => decide)
    with_reducible refine wpAny_BinOp ?_
    (with_reducible refine cStr ?_); intro _ _
    with_reducible refine wpAny_BinOp ?_
    (with_reducible refine Attribute_any_ ?_ ?ka); (case ka => with_unfolding_all rfl)
    (with_reducible refine' rd ?ka ?kb ?_ ?kc ?kd ?ke); (case ka => with_reducible assumption); (case kb => walk_at "look"); (case kc => rfl); (case kd => rfl); (case ke => decide)
    refine' wsN C S (W'.mono (fun p hp => List.mem_append_left _ hp)) (fun t₆ u₆ => ?_)
    (with_reducible refine Attribute_any_ ?_ ?ka); (case ka => with_unfolding_all rfl)
    (with_reducible refine' rd ?ka ?kb ?_ ?kc ?kd ?ke); (case ka => with_reducible assumption); (case kb => walk_at "look"); (case kc => rfl); (case kd => rfl); (case ke => decide)
    refine' wsT C S (W'.mono (fun p hp => List.mem_append_left _ hp)) (fun t₆ u₆ => ?_)
    (with_reducible refine subI ?_); intro _ _
    refine mulS (mulOk1 hsp hb'.1 hb'.2) (fun t₁₀ u₁₀ => ?_)
    (with_reducible refine addS ?ka ?_); (case ka => rw [sizeLine_eq]; (try simp only [Str.length_append]); omega); intro _ _
    (with_reducible refine cStr ?_); intro _ _
    (with_reducible refine addS ?ka ?_); (case ka => rw [sizeLine_eq]; (try simp only [Str.length_append]); omega); intro _ _
    with_reducible refine spliced_none ?_
    (with_reducible refine' And.intro (inK ?ka ?kb) ?_); (case ka => with_reducible assumption); (case kb => with_reducible assumption)
    rw [hraw]
    refine' ws_call C S ?hr ?hh ?hx (fun h₅ t₅ a₅ ads₅ S₅ W₅ => ?_)
    case hr => show A.depth + 1 + 5 < _; omega
    case hh => exact hh
    case hx => rw [← hraw]; omega
    exact q _ _ _ _ _ _ S₅ (W₅.mono (fun p hp => List.mem_append_left _ hp))
end
noncomputable def lawSt : Stmt := match PySem.Challenge.pw_rl0080_01.main.body.getLast? with | some s => s | none => .Pass default
noncomputable def lawB : List Stmt := match lawSt with | .FunctionDef _ _ b _ _ _ _ _ _ _ => b | _ => []
noncomputable def lawSc : Scope := match lawSt with | .FunctionDef _ _ _ _ _ _ sc _ _ _ => sc | _ => default
noncomputable def forB : Stmt → List Stmt | .For _ _ b _ _ => b | _ => []
noncomputable abbrev lawE (L fa : Addr) (cd : Value) : Env := envOf (Str.ofString "law") lawSc L fa cd
section
variable {prog : Program} {w : World} {A : Around} {E : Value → Shared → Prop} {h₀ h : Heap} {L : Addr} {m : Str → Option Value} {pre post os : List (Addr × Obj)} {gs : Array GenState} {dr : Drawn} {t : Nat} {o : OsState} {pos : Pos} {env : Env} {Q : Value → Shared → Prop} {l : Addr} {vs : List Value} {ns : List Int} {vl vu : Value} {lo hi : Option Int} {i j : Int} {u v : Tok}
theorem slL {value slice : Expr} (S : St h₀ L m os h) (hl : h.IsList l vs.toArray) (pl : IsPart vl lo) (pu : IsPart vu hi) (hz : vs.length ≤ sizeLine)
    (q : ∀ h' l' ob, LOb ob (slicePick vs.toArray lo hi none).toList → St h₀ L m ((l', ob) :: os) h' → Q (.ref l') ⟨h', gs, dr, t, o⟩)
    (hs : subscripted slice false (.ref l) (.ref h.objs.size) = operate [.ref h.objs.size, .ref l] (getItem (.ref l) (.ref h.objs.size)) := by with_unfolding_all rfl)
    (ht : ∀ r, letTemporaryGo value (.ref l) r = pure () := by intro _; with_unfolding_all rfl) :
    wpAny (model prog w) A (subscriptTail value slice (.ref l) (.ref h.objs.size)) Q E ⟨h.push { cls := .type "slice", data := .fields #[vl, vu, .none] }, gs, dr, t, o⟩ := by
  refine slice_listK (s := ⟨h, gs, dr, t, o⟩) hl pl pu ?_ hs ht (by rw [List.size_toArray]; exact hz)
  have S' := ((S.push { cls := .type "slice", data := .fields #[vl, vu, .none] }).push { cls := .type "list", data := .seq (slicePick vs.toArray lo hi none) }).d2
  rw [Heap.size_push] at S'
  exact q _ _ _ ⟨rfl, 0, rfl⟩ S'
theorem sumL (S : St h₀ L m os h) (hh : A.handled = none) (hl : h.IsList l vs.toArray) (hI : IntsAre vs ns) (q : ∀ h' t' u, St h₀ L m os h' → Q (.int ns.sum u) ⟨h', gs, dr, t', o⟩) :
    wpAny (model prog w) A (call (.builtin "sum") [.ref l]) Q E ⟨h, gs, dr, t, o⟩ :=
  LSm.sum_ints (s := ⟨h, gs, dr, t, o⟩) S.F S.N hh hl hI (fun h' tk t' F N => q h' tk t' ⟨F, N, S.D⟩)
theorem modI (hb : j ≠ 0) (q : ∀ t' u, Q (.int (i.fmod j) u) ⟨h, gs, dr, t', o⟩) : wpAny (model prog w) A (binaryOp .Mod (.int i u) (.int j v)) Q E ⟨h, gs, dr, t, o⟩ := mod_int' hb (q _ _)
theorem fdivI (hb : j ≠ 0) (hp : j.natAbs < 1073741824) (q : ∀ t' u, Q (.int (i.fdiv j) u) ⟨h, gs, dr, t', o⟩) : wpAny (model prog w) A (binaryOp .FloorDiv (.int i u) (.int j v)) Q E ⟨h, gs, dr, t, o⟩ := floordiv_int hb (q _ _) (Or.inl (PyProof.noPylong_small hp))
end
noncomputable def spareM : List Int := [0, 1, 3, 2, 3, 0, 3]
noncomputable def drawnM (ns : List Int) : List Int := ns.take 7 ++ spareM.drop (ns.take 7).length
noncomputable def mostM (ns : List Int) : Int := 4 + (drawnM ns).sum.fmod 4
noncomputable def letS (k : Int) : Str := Txt.item (Str.ofString "\t ") k
noncomputable def firstM (ns : List Int) : Str := Txt.join (Str.ofString "") (((drawnM ns).take (mostM ns).toNat).map fun n => letS (n.fmod 2))
noncomputable def secondM (ns : List Int) : Str := Txt.join (Str.ofString "") (((drawnM ns).take (mostM ns).toNat).map fun n => letS ((n.fdiv 2).fmod 2))
noncomputable def twinW (ns : List Int) : Str := Txt.mul (Str.ofString " ") (((drawnM ns).sum.fdiv 4).fmod 2) ++ twinM (firstM ns)
theorem fmod_two (n : Int) : 0 ≤ n.fmod 2 ∧ n.fmod 2 < 2 := by
  rw [Int.fmod_eq_emod_of_nonneg _ (by decide)]; omega
theorem fmod_four (n : Int) : 0 ≤ n.fmod 4 ∧ n.fmod 4 < 4 := by
  rw [Int.fmod_eq_emod_of_nonneg _ (by decide)]; omega
theorem strs_of {α : Type} {f : α → Str} : ∀ {as : List α} {ys : List Value}, CarriedAll ys (as.map fun a => PyData.str (f a)) → ∃ l : List (Str × Tok), ys = strsV l ∧ l.map Prod.fst = as.map f := by
  intro as
  induction as with
  | nil => intro ys h; cases h; exact ⟨[], rfl, rfl⟩
  | cons a as ih =>
    intro ys h
    rw [List.map_cons] at h
    cases h with
    | cons h1 h2 =>
      obtain ⟨l, e1, e2⟩ := ih h2
      generalize hx : PyData.str (f a) = d at h1
      cases h1 with
      | str x t =>
        cases hx
        exact ⟨(f a, t) :: l, by rw [e1]; rfl, by rw [List.map_cons, e2]; rfl⟩
      | _ => cases hx
theorem join_ok (texts : List Str) (h1 : ∀ x ∈ texts, x.length = 1) (h2 : texts.length ≤ 100) : JoinOk (Str.ofString "") texts = true := by
  have h0 : (Str.ofString "").length = 0 := by decide +kernel
  have key : ∀ (l : List Str) (acc : Nat), (∀ x ∈ l, x.length = 1) → l.foldl (fun a p => a + p.length + (Str.ofString "").length) acc = acc + l.length := by
    intro l
    induction l with
    | nil => intro acc _; rfl
    | cons p l ih =>
      intro acc hl
      rw [List.foldl_cons, ih _ (fun x hx => hl x (.tail _ hx)), hl p (.head _), h0, List.length_cons]; omega
  unfold JoinOk
  have := key texts 0 h1
  simp only [List.size_toArray, List.foldl_toArray'] at *
  rw [this]
  unfold Builtin.Str.tooLong
  rw [sizeLine_eq]; simp; omega
theorem letS_len (k : Int) : (letS k).length = 1 := rfl
noncomputable def chrL (k : Int) : Nat := (Txt.charAt (Str.ofString "\t ") k).getD 0
theorem join_lets (ks : List Int) : Txt.join (Str.ofString "") (ks.map letS) = ⟨(ks.map chrL).toArray⟩ := by
  have h0 : (Str.ofString "").cps = #[] := by decide +kernel
  have key : ∀ (ks : List Int) (acc : Array Nat), (ks.map letS).foldl (fun acc p => acc ++ (Str.ofString "").cps ++ p.cps) acc = acc ++ (ks.map chrL).toArray := by
    intro ks
    induction ks with
    | nil => intro acc; simp
    | cons k ks ih =>
      intro acc
      rw [List.map_cons, List.foldl_cons, ih, h0]
      apply Array.ext'
      simp [letS, Txt.item, chrL]
  show Str.mk _ = Str.mk _
  congr 1
  cases ks with
  | nil => rfl
  | cons k ks =>
    rw [List.map_cons, List.drop_one, List.tail_cons, key]
    apply Array.ext'
    simp [letS, Txt.item, chrL]
theorem first_eq (ns : List Int) : firstM ns = ⟨(((drawnM ns).take (mostM ns).toNat).map fun n => chrL (n.fmod 2)).toArray⟩ := by
  have := join_lets (((drawnM ns).take (mostM ns).toNat).map fun n => n.fmod 2)
  rw [List.map_map, List.map_map] at this
  exact this
theorem second_eq (ns : List Int) : secondM ns = ⟨(((drawnM ns).take (mostM ns).toNat).map fun n => chrL ((n.fdiv 2).fmod 2)).toArray⟩ := by
  have := join_lets (((drawnM ns).take (mostM ns).toNat).map fun n => (n.fdiv 2).fmod 2)
  rw [List.map_map, List.map_map] at this
  exact this
theorem most_le (ns : List Int) : 4 ≤ mostM ns ∧ mostM ns ≤ 7 := by unfold mostM; have := fmod_four (drawnM ns).sum; omega
theorem first_len (ns : List Int) : (firstM ns).length ≤ 7 := by
  rw [first_eq]
  show Array.size _ ≤ 7
  have := most_le ns
  simp; omega
theorem twinM_len (x : Str) : (twinM x).length ≤ 4 * x.length := by
  unfold twinM
  cases h : twinO x with
  | none => show x.length ≤ _; omega
  | some r =>
    show r.length ≤ _
    unfold twinO at h
    obtain ⟨i, _, h⟩ := List.exists_of_findSome?_eq_some h
    unfold twinMid at h
    obtain ⟨j, _, h⟩ := List.exists_of_findSome?_eq_some h
    unfold twinE at h
    obtain ⟨k, _, h⟩ := List.exists_of_findSome?_eq_some h
    unfold twinC at h
    split at h
    · split at h
      · split at h
        · cases h
          simp only [Str.length_append]
          have z1 := Txt.slice_le x
          generalize (0 + (i : Int) * 1) = st at *
          generalize (st + 2 + (j : Int) * 2) = mi at *
          generalize (mi + 2 + (k : Int) * 2) = en at *
          have a1 := z1 none (some st)
          have a2 := z1 (some mi) (some en)
          have a3 := z1 (some st) (some mi)
          have a4 := z1 (some en) none
          omega
        · cases h
      · cases h
    · cases h
section
variable {prog : Program} {w : World} {A : Around} {E : Value → Shared → Prop} {h₀ h : Heap} {L : Addr} {m : Str → Option Value} {os : List (Addr × Obj)} {gs : Array GenState} {dr : Drawn} {t : Nat} {o : OsState} {env : Env} {Q : Value → Shared → Prop}
theorem compS {elt iter : Expr} {x : Str} {px : Pos} {scope : Scope} {pos : Pos} (f : Int → Str) (S : St h₀ L m os h) (hh : A.handled = none) (hclos : closureFor scope env = pure []) (hcell : ∀ y ∈ scope.names, y.2 ≠ .cell) (hkind : scope.kind = .function)
    (hnames : ∀ y ∈ scope.names, y.2 = .local → scope.names.lookup y.1 = some .local) (hx : scope.names.lookup x = some .local)
    (helt : ∀ C k u h₂ gs₂ dr₂ t₂ o₂ m₂ E', h₂.Ns (compEnvC scope [] C env).locals m₂ → m₂ x = some (.int k u) →
        wpAny (model prog w) A (eval elt (compEnvC scope [] C env)) (fun y s₃ => Carried y (.str (f k)) ∧ Keeps ⟨h₂, gs₂, dr₂, t₂, o₂⟩ s₃) E' ⟨h₂, gs₂, dr₂, t₂, o₂⟩)
    (hit : wpAny (model prog w) A (eval iter env) (fun xv s₁ => ∃ l' ob vs ns h' t', xv = .ref l' ∧ s₁ = ⟨h', gs, dr, t', o⟩ ∧ St h₀ L m ((l', ob) :: os) h' ∧ LOb ob vs ∧ IntsAre vs ns ∧ ns.length ≤ 100 ∧
      (∀ D l h' t', St h₀ L m os h' → h'.IsList D (strsV l).toArray → l.map Prod.fst = ns.map f → Q (.ref D) ⟨h', gs, dr, t', o⟩)) E ⟨h, gs, dr, t, o⟩)
    (hs : ∀ x, foldedSetIterable iter env x = pure x) :
    wpAny (model prog w) A (eval (.ListComp elt [⟨.Name x px, iter, [], 0⟩] scope pos) env) Q E ⟨h, gs, dr, t, o⟩ := by
  refine ListComp_DC (h₀ := h₀) (L := L) (m := m) (K := .int) (news := os) (pz := fun _ => true) (d := fun n => .str (f n)) hh hclos hcell hkind hnames hx (wpAny_mono hit (fun xv s₁ q => ?_) fun _ _ e => e) hs
  obtain ⟨l', ob, vs, ns, h', t', rfl, rfl, S', hL, hI, hz, q⟩ := q
  refine ⟨l', vs, ns, rfl, isO S' (.head _) hL, hI.areOf, by rw [sizeLine_eq]; omega, S'.F, S'.tail.N, ?_, ?_, ?_⟩
  · intro C' a' v' s₂ m₂ E' _ _ _ _ _
    exact wpAny_pure ⟨rfl, _, _, rfl, fun _ _ e => e⟩
  · rintro C' a' v' ⟨h', gs', dr', t', o'⟩ m₂ E' ha' ⟨tk, rfl⟩ _ hns hm2 hk
    exact helt C' a' tk h' gs' dr' t' o' m₂ E' hns hm2
  · intro D ys h' tk F N hD' hLD hC
    rw [List.filter_eq_self.mpr (fun _ _ => rfl)] at hC
    obtain ⟨l, rfl, e⟩ := strs_of hC
    exact q D l h' tk ⟨F, N, S.D⟩ hLD e
theorem joinS {D : Addr} {l : List (Str × Tok)} {texts : List Str} {u : Tok} (hl : h.IsList D (strsV l).toArray) (e : l.map Prod.fst = texts) (h1 : ∀ x ∈ texts, x.length = 1) (h2 : texts.length ≤ 100) (q : ∀ t' u, Q (.str (Txt.join (Str.ofString "") texts) u) ⟨h, gs, dr, t', o⟩) :
    wpAny (model prog w) A (call (.builtin "str.join") [.str (Str.ofString "") u, .ref D]) Q E ⟨h, gs, dr, t, o⟩ :=
  SC.join (s := ⟨h, gs, dr, t, o⟩) hl e (join_ok _ h1 h2) (fun t' k => q k t')
end
section
variable {prog : Program} {w : World} {A : Around} {E : Value → Shared → Prop} {h₀ h : Heap} {L fa : Addr} {cd : Value} {m : Str → Option Value} {gs : Array GenState} {dr : Drawn} {t : Nat} {o : OsState} {Q : Flow → Shared → Prop} {a : Addr} {vs : List Value} {ns : List Int}
theorem lawA (C : Cx w h₀) (hroom : A.depth + 9 < recursionLimit) (hh : A.handled = none) (hl : h₀.IsList a vs.toArray) (hI : IntsAre vs ns) (hn : ns.length ≤ 63) (S : St h₀ L m [] h) (hm : m (Str.ofString "script") = some (.ref a))
    (q : ∀ h' t' m' t1 t2 t3, St h₀ L m' [] h' → m' (Str.ofString "first") = some (.str (firstM ns) t1) → m' (Str.ofString "twin") = some (.str (twinW ns) t2) → m' (Str.ofString "second") = some (.str (secondM ns) t3) →
      wpAny (model prog w) A (execs (lawB.drop 7) (lawE L fa cd)) Q E ⟨h', gs, dr, t', o⟩) :
    wpAny (model prog w) A (execs lawB (lawE L fa cd)) Q E ⟨h, gs, dr, t, o⟩ := by
  have hz : vs.length ≤ sizeLine := by rw [sizeLine_eq, hI.length]; omega
  show wpAny _ _ (execs (_ :: _) _) _ _ _
  with_reducible refine wpAny_execs_cons ?_
  (with_reducible refine wpAny_Assign_Name ?_ ?ka); (case ka => rfl)
  with_reducible refine List_ ?_
  (with_reducible refine spliced_more ?_ ?ka); (case ka => rfl)
  (with_reducible refine cInt ?_); intro _ _
  (with_reducible refine spliced_more ?_ ?ka); (case ka => rfl)
  (with_reducible refine cInt ?_); intro _ _
  (with_reducible refine spliced_more ?_ ?ka); (case ka => rfl)
  (with_reducible refine cInt ?_); intro _ _
  (with_reducible refine spliced_more ?_ ?ka); (case ka => rfl)
  (with_reducible refine cInt ?_); intro _ _
  (with_reducible refine spliced_more ?_ ?ka); (case ka => rfl)
  (with_reducible refine cInt ?_); intro _ _
  (with_reducible refine spliced_more ?_ ?ka); (case ka => rfl)
  (with_reducible refine cInt ?_); intro _ _
  (with_reducible refine spliced_more ?_ ?ka); (case ka => rfl)
  (with_reducible refine cInt ?_); intro _ _
  with_reducible refine spliced_none ?_
  (with_reducible refine' newL ?ka ?_ ?kb); (case ka => with_reducible assumption); (case kb => walk_at "sz"); intro _ _ _ _
  (with_reducible refine' sto ?ka ?_ ?kb ?kc); (case ka => with_reducible assumption); (case kb => rfl); (case kc => rfl); intro _ _ _
  with_reducible refine wpAny_execs_cons ?_
  (with_reducible refine wpAny_Assign_Name ?_ ?ka); (case ka => rfl)
  with_reducible refine wpAny_BinOp ?_
  with_reducible refine Subscript_ ?_
  (with_reducible refine' rd ?ka ?kb ?_ ?kc ?kd ?ke); (case ka => with_reducible assumption); (case kb => walk_at "look"); (case kc => rfl); (case kd => rfl); (case ke => decide)
  with_reducible refine wpAny_Slice ?_
  with_reducible refine evalPart_none_step ?_
  with_reducible refine evalPart_some_step ?_
  (with_reducible refine cInt ?_); intro _ _
  with_reducible refine evalPart_none_step ?_
  rename_i h₁ l₁ S₁ f₁ h₂ t₂ S₂ t₃ u₃
  obtain ⟨vsp, hIs, S₂'⟩ : ∃ vsp, IntsAre vsp spareM ∧ St h₀ L (fun y => if y = Str.ofString "spare" then some (Value.ref l₁) else m y) [(l₁, lob vsp 0)] h₂ :=
    ⟨_, .cons _ _ (.cons _ _ (.cons _ _ (.cons _ _ (.cons _ _ (.cons _ _ (.cons _ _ .nil)))))), S₂⟩
  clear S₂ S₁
  have hvsp : vsp.length ≤ sizeLine := by rw [sizeLine_eq, hIs.length]; decide
  refine slL S₂' (hl.at fun o e => S₂'.F.keep _ o e) .none (.int 7 _) hz (fun h₃ l₃ ob₃ L₃ S₃ => ?_)
  have I₃ := slice_ints_uptoW hI (y := 7) (by decide)
  have z₃ : (slicePick vs.toArray none (some 7) none).toList.length = (ns.take 7).length := I₃.length
  with_reducible refine Subscript_ ?_
  (with_reducible refine' rd ?ka ?kb ?_ ?kc ?kd ?ke); (case ka => with_reducible assumption); (case kb => walk_at "look"); (case kc => rfl); (case kd => rfl); (case ke => decide)
  with_reducible refine wpAny_Slice ?_
  with_reducible refine evalPart_some_step ?_
  (with_reducible refine Call_ ?_ ?ka); (case ka => rfl)
  (with_reducible refine' rdB ?ka ?kb ?kc ?kd ?_ ?ke ?kf ?kg ?kh); (case ka => with_reducible assumption); (case kb => with_reducible assumption); (case kc => first | with_reducible exact gb0 _ | with_reducible exact gb1 _ | with_reducible exact gb2 _ | with_reducible exact gb3 _ | with_reducible exact gb4 _); (case kd => first | exact boot_len | exact boot_range | exact boot_enumerate | exact boot_tuple | exact boot_sum); (case ke => decide); (case kf => rfl); (case kg => rfl); (case kh => decide)
  (with_reducible refine callWith_builtin1 ?_ ?ka ?kb); (case ka => rfl); (case kb => rfl)
  (with_reducible refine spliced_more ?_ ?ka); (case ka => rfl)
  with_reducible refine Subscript_ ?_
  (with_reducible refine' rd ?ka ?kb ?_ ?kc ?kd ?ke); (case ka => with_reducible assumption); (case kb => walk_at "look"); (case kc => rfl); (case kd => rfl); (case ke => decide)
  with_reducible refine wpAny_Slice ?_
  with_reducible refine evalPart_none_step ?_
  with_reducible refine evalPart_some_step ?_
  (with_reducible refine cInt ?_); intro _ _
  with_reducible refine evalPart_none_step ?_
  refine slL S₃ (hl.at fun o e => S₃.F.keep _ o e) .none (.int 7 _) hz (fun h₄ l₄ ob₄ L₄ S₄ => ?_)
  with_reducible refine spliced_none ?_
  refine lenO S₄ (.head _) L₄ (by rw [z₃, sizeLine_eq]; simp; omega) (fun t₅ u₅ => ?_)
  rw [z₃]
  with_reducible refine evalPart_none_step ?_
  with_reducible refine evalPart_none_step ?_
  refine slL S₄ (isL S₄ (.tail _ (.tail _ (.head _)))) (.int _ _) .none hvsp (fun h₆ l₆ ob₆ L₆ S₆ => ?_)
  have I₆ := slice_ints_fromW hIs (x := ((ns.take 7).length : Nat)) (by omega)
  rw [Int.toNat_natCast] at I₆
  have z₆ := I₆.length
  refine addO S₆ (.tail _ (.tail _ (.head _))) L₃ (.head _) L₆ (by rw [z₃, z₆, sizeLine_eq]; simp [spareM]; omega) (fun h₇ l₇ S₇ => ?_)
  have I₇ : IntsAre _ (drawnM ns) := I₃.append I₆
  have S₇' := S₇.sub (.cons_cons _ (.cons _ (.cons _ (.cons _ (.cons _ (.refl _))))))
  clear S₇ S₆ S₄ S₃ S₂'
  generalize hD : ((slicePick vs.toArray none (some 7) none).toList ++ (slicePick vsp.toArray (some ↑(List.take 7 ns).length) none none).toList) = vd at S₇' I₇
  (with_reducible refine' sto ?ka ?_ ?kb ?kc); (case ka => with_reducible assumption); (case kb => rfl); (case kc => rfl); intro _ _ _
  with_reducible refine wpAny_execs_cons ?_
  (with_reducible refine wpAny_Assign_Name ?_ ?ka); (case ka => rfl)
  (with_reducible refine Call_ ?_ ?ka); (case ka => rfl)
  (with_reducible refine' rdB ?ka ?kb ?kc ?kd ?_ ?ke ?kf ?kg ?kh); (case ka => with_reducible assumption); (case kb => with_reducible assumption); (case kc => first | with_reducible exact gb0 _ | with_reducible exact gb1 _ | with_reducible exact gb2 _ | with_reducible exact gb3 _ | with_reducible exact gb4 _); (case kd => first | exact boot_len | exact boot_range | exact boot_enumerate | exact boot_tuple | exact boot_sum); (case ke => decide); (case kf => rfl); (case kg => rfl); (case kh => decide)
  (with_reducible refine callWith_builtin1 ?_ ?ka ?kb); (case ka => rfl); (case kb => rfl)
  (with_reducible refine spliced_more ?_ ?ka); (case ka => rfl)
  (with_reducible refine' rd ?ka ?kb ?_ ?kc ?kd ?ke); (case ka => with_reducible assumption); (case kb => walk_at "look"); (case kc => rfl); (case kd => rfl); (case ke => decide)
  with_reducible refine spliced_none ?_
  rename_i S₈
  refine sumL S₈ hh (isL S₈ (.head _)) I₇ (fun h₉ t₉ u₉ S₉ => ?_)
  clear S₈ S₇'
  (with_reducible refine' sto ?ka ?_ ?kb ?kc); (case ka => with_reducible assumption); (case kb => rfl); (case kc => rfl); intro _ _ _
  with_reducible refine wpAny_execs_cons ?_
  (with_reducible refine wpAny_Assign_Name ?_ ?ka); (case ka => rfl)
  with_reducible refine wpAny_BinOp ?_
  (with_reducible refine cInt ?_); intro _ _
  with_reducible refine wpAny_BinOp ?_
  (with_reducible refine' rd ?ka ?kb ?_ ?kc ?kd ?ke); (case ka => with_reducible assumption); (case kb => walk_at "look"); (case kc => rfl); (case kd => rfl); (case ke => decide)
  (with_reducible refine cInt ?_); intro _ _
  refine modI (by decide) (fun t₁₀ u₁₀ => ?_)
  (with_reducible refine addI ?_); intro _ _
  (with_reducible refine' sto ?ka ?_ ?kb ?kc); (case ka => with_reducible assumption); (case kb => rfl); (case kc => rfl); intro _ _ _
  with_reducible refine wpAny_execs_cons ?_
  (with_reducible refine wpAny_Assign_Name ?_ ?ka); (case ka => rfl)
  (with_reducible refine' MethodCall_ ?_ ?ka); (case ka => rfl)
  (with_reducible refine cStr ?_); intro _ _
  refine GM.join ?_
  (with_reducible refine cwm ?_ ?ka ?kb); (case ka => rfl); (case kb => rfl)
  (with_reducible refine spliced_more ?_ ?ka); (case ka => rfl)
  rename_i h₁₂ t₁₂ S₁₂ t₁₃ u₁₃
  clear S₉
  have hvd : vd.length ≤ sizeLine := by rw [I₇.length, sizeLine_eq]; unfold drawnM spareM; simp; omega
  have hmo : 0 ≤ mostM ns ∧ mostM ns ≤ 7 := by unfold mostM; have := fmod_four (drawnM ns).sum; omega
  refine' compS (fun n => letS (n.fmod 2)) S₁₂ hh ?clos ?cell rfl ?names ?x ?elt ?_ ?hs
  case clos => rfl
  case cell => decide
  case names => decide
  case x => rfl
  case hs => intro _; rfl
  case elt =>
    intro C' k u h' gs' dr' t' o' m₂ E' hns hm2
    with_reducible refine Subscript_ ?_
    (with_reducible refine cStr ?_); intro _ _
    with_reducible refine wpAny_BinOp ?_
    refine ldVarK hns hm2 ?_
    (with_reducible refine cInt ?_); intro _ _
    refine modI (by decide) (fun t₁₀ u₁₀ => ?_)
    have b := fmod_two k
    refine itemS b.1 (by have : (Str.ofString "\t ").length = 2 := by decide +kernel
                         omega) (by rw [sizeLine_eq]; decide +kernel) (fun t₁₀ u₁₀ => ?_)
    exact ⟨.str _ _, _, _, rfl, fun _ _ e => e⟩
  with_reducible refine Subscript_ ?_
  (with_reducible refine' rd ?ka ?kb ?_ ?kc ?kd ?ke); (case ka => with_reducible assumption); (case kb => walk_at "look"); (case kc => rfl); (case kd => rfl); (case ke => decide)
  with_reducible refine wpAny_Slice ?_
  with_reducible refine evalPart_none_step ?_
  with_reducible refine evalPart_some_step ?_
  (with_reducible refine' rd ?ka ?kb ?_ ?kc ?kd ?ke); (case ka => with_reducible assumption); (case kb => walk_at "look"); (case kc => rfl); (case kd => rfl); (case ke => decide)
  with_reducible refine evalPart_none_step ?_
  refine slL S₁₂ (isL S₁₂ (.head _)) .none (.int _ _) hvd (fun h₁₄ l₁₄ ob₁₄ L₁₄ S₁₄ => ?_)
  have I₁₄ := slice_ints_uptoW I₇ (y := mostM ns) hmo.1
  refine ⟨l₁₄, _, _, _, _, _, rfl, rfl, S₁₄, L₁₄, I₁₄, by simp; omega, ?_⟩
  clear S₁₄
  intro D l h₁₅ t₁₅ S₁₅ hLD el
  clear S₁₂
  with_reducible refine spliced_none ?_
  refine joinS hLD el (fun x hx => by obtain ⟨n, _, rfl⟩ := List.mem_map.mp hx; rfl) (by simp; omega) (fun t₁₆ u₁₆ => ?_)
  (with_reducible refine' sto ?ka ?_ ?kb ?kc); (case ka => with_reducible assumption); (case kb => rfl); (case kc => rfl); intro _ _ _
  with_reducible refine wpAny_execs_cons ?_
  (with_reducible refine wpAny_Assign_Name ?_ ?ka); (case ka => rfl)
  (with_reducible refine' MethodCall_ ?_ ?ka); (case ka => rfl)
  (with_reducible refine cStr ?_); intro _ _
  clear S₁₅
  refine GM.join ?_
  (with_reducible refine cwm ?_ ?ka ?kb); (case ka => rfl); (case kb => rfl)
  (with_reducible refine spliced_more ?_ ?ka); (case ka => rfl)
  rename_i h₁₇ t₁₇ S₁₇ t₁₈ u₁₈
  refine' compS (fun n => letS ((n.fdiv 2).fmod 2)) S₁₇ hh ?clos ?cell rfl ?names ?x ?elt ?_ ?hs
  case clos => rfl
  case cell => decide
  case names => decide
  case x => rfl
  case hs => intro _; rfl
  case elt =>
    intro C' k u h' gs' dr' t' o' m₂ E' hns hm2
    with_reducible refine Subscript_ ?_
    (with_reducible refine cStr ?_); intro _ _
    with_reducible refine wpAny_BinOp ?_
    with_reducible refine wpAny_BinOp ?_
    refine ldVarK hns hm2 ?_
    (with_reducible refine cInt ?_); intro _ _
    refine fdivI (by decide) (by decide) (fun t₁₀ u₁₀ => ?_)
    (with_reducible refine cInt ?_); intro _ _
    refine modI (by decide) (fun t₁₀ u₁₀ => ?_)
    have b := fmod_two (k.fdiv 2)
    refine itemS b.1 (by have : (Str.ofString "\t ").length = 2 := by decide +kernel
                         omega) (by rw [sizeLine_eq]; decide +kernel) (fun t₁₀ u₁₀ => ?_)
    exact ⟨.str _ _, _, _, rfl, fun _ _ e => e⟩
  with_reducible refine Subscript_ ?_
  (with_reducible refine' rd ?ka ?kb ?_ ?kc ?kd ?ke); (case ka => with_reducible assumption); (case kb => walk_at "look"); (case kc => rfl); (case kd => rfl); (case ke => decide)
  with_reducible refine wpAny_Slice ?_
  with_reducible refine evalPart_none_step ?_
  with_reducible refine evalPart_some_step ?_
  (with_reducible refine' rd ?ka ?kb ?_ ?kc ?kd ?ke); (case ka => with_reducible assumption); (case kb => walk_at "look"); (case kc => rfl); (case kd => rfl); (case ke => decide)
  with_reducible refine evalPart_none_step ?_
  refine slL S₁₇ (isL S₁₇ (.head _)) .none (.int _ _) hvd (fun h₁₄ l₁₄ ob₁₄ L₁₄ S₁₄ => ?_)
  refine ⟨l₁₄, _, _, _, _, _, rfl, rfl, S₁₄, L₁₄, I₁₄, by simp; omega, ?_⟩
  clear S₁₄
  intro D₂ l₂ h₁₉ t₁₉ S₁₉ hLD₂ el₂
  clear S₁₇
  with_reducible refine spliced_none ?_
  refine joinS hLD₂ el₂ (fun x hx => by obtain ⟨n, _, rfl⟩ := List.mem_map.mp hx; rfl) (by simp; omega) (fun t₂₀ u₂₀ => ?_)
  (with_reducible refine' sto ?ka ?_ ?kb ?kc); (case ka => with_reducible assumption); (case kb => rfl); (case kc => rfl); intro _ _ _
  with_reducible refine wpAny_execs_cons ?_
  (with_reducible refine wpAny_Assign_Name ?_ ?ka); (case ka => rfl)
  with_reducible refine wpAny_BinOp ?_
  with_reducible refine wpAny_BinOp ?_
  (with_reducible refine cStr ?_); intro _ _
  with_reducible refine wpAny_BinOp ?_
  with_reducible refine wpAny_BinOp ?_
  (with_reducible refine' rd ?ka ?kb ?_ ?kc ?kd ?ke); (case ka => with_reducible assumption); (case kb => walk_at "look"); (case kc => rfl); (case kd => rfl); (case ke => decide)
  (with_reducible refine cInt ?_); intro _ _
  clear S₁₉
  rename_i h₂₁ t₂₁ S₂₁ t₂₂ u₂₂ t₂₃ u₂₃
  refine fdivI (by decide) (by decide) (fun t₂₄ u₂₄ => ?_)
  (with_reducible refine cInt ?_); intro _ _
  refine modI (by decide) (fun t₂₅ u₂₅ => ?_)
  have b := fmod_two ((drawnM ns).sum.fdiv 4)
  have hsp : (Str.ofString " ").length = 1 := by decide +kernel
  refine mulS (mulOk1 hsp (by omega) (by omega)) (fun t₂₆ u₂₆ => ?_)
  have hml := mul_len hsp (n := ((drawnM ns).sum.fdiv 4).fmod 2) (by omega)
  (with_reducible refine Call_ ?_ ?ka); (case ka => rfl)
  (with_reducible refine' rdG ?ka ?kb ?kc ?_ ?kd ?ke ?kf); (case ka => with_reducible assumption); (case kb => with_reducible assumption); (case kc => first | with_reducible exact gl0 _ | with_reducible exact gl1 _ | with_reducible exact gl2 _ | with_reducible exact gl3 _ | with_reducible exact gl4 _ | with_reducible exact gl5 _ | with_reducible exact gl6 _ | with_reducible exact gl7 _ | with_reducible exact gl8 _ | with_reducible exact gl9 _); (case kd => rfl); (case ke => rfl); (case kf => decide)
  (with_reducible refine' cwf ?ka ?kb ?_ ?kc ?kd); (case ka => with_reducible assumption); (case kb => exact rfl); (case kc => rfl); (case kd => rfl)
  (with_reducible refine spliced_more ?_ ?ka); (case ka => rfl)
  (with_reducible refine' rd ?ka ?kb ?_ ?kc ?kd ?ke); (case ka => with_reducible assumption); (case kb => walk_at "look"); (case kc => rfl); (case kd => rfl); (case ke => decide)
  with_reducible refine spliced_none ?_
  (with_reducible refine' And.intro (inK ?ka ?kb) ?_); (case ka => with_reducible assumption); (case kb => with_reducible assumption)
  have hfl := first_len ns
  refine twin_spec (x := firstM ns) (s := ⟨h₂₁, gs, dr, _, o⟩) (C.keeps S₂₁.F.keep) (by omega) hh (by omega) (fun h' t' tk k => ?_)
  have S₂₇ := S₂₁.grow k
  clear S₂₁
  have htl := twinM_len (firstM ns)
  (with_reducible refine addS ?ka ?_); (case ka => rw [sizeLine_eq]; (try simp only [Str.length_append]); omega); intro _ _
  (with_reducible refine' sto ?ka ?_ ?kb ?kc); (case ka => with_reducible assumption); (case kb => rfl); (case kc => rfl); intro _ _ _
  exact q _ _ _ _ _ _ (St.sub ‹_› (List.nil_sublist _)) (by walk_at "look") (by walk_at "look") (by walk_at "look")
end
section
variable {prog : Program} {w : World} {A : Around} {E : Value → Shared → Prop} {s : Shared}
theorem nextTup_item {it t : Addr} {i : Nat} {items : Array Value} {x : Value} {Q : Value → Shared → Prop} (hit : s.heap.IsTupleIter it t i) (ht : s.heap.IsTuple t items) (hx : items[i]? = some x)
    (hQ : ∀ h', h'.IsTupleIter it t (i + 1) → Heap.SameBut it s.heap h' → Q x { s with heap := h' }) :
    wpAny (model prog w) A (Builtin.SmallTypes.nextOf (.ref it)) Q E s := by
  obtain ⟨o, ho, hc, hd⟩ := id hit
  obtain ⟨ol, hol, _, nl, hdl⟩ := ht
  unfold Builtin.SmallTypes.nextOf
  refine wpAny_bind (wpAny_callSpecial?_slot (name := Str.ofString "__next__") hit.typeIs F.slot_tuple_iterator_next
    (wpAny_call_entry F.slot_tuple_iterator_next hit.typeIs F.entry_tuple_iterator_next ?_ (F.args_tuple_iterator_next_1 _)))
  show wpAny _ _ (field (.ref it) 0 >>= _) _ _ s
  refine wpAny_bind (wpAny_field ho hd (x := .ref t) rfl ?_)
  show wpAny _ _ (if (Value.ref t == Value.none) = true then _ else _) _ _ s
  rw [if_neg (show ¬ ((Value.ref t == Value.none) = true) from Bool.false_ne_true)]
  show wpAny _ _ (field (.ref it) 1 >>= _) _ _ s
  refine wpAny_bind (wpAny_field ho hd (x := .int i 0) rfl ?_)
  show wpAny _ _ (seqItems? (.ref t) >>= _) _ _ s
  refine wpAny_bind (wpAny_seqItems hol hdl ?_)
  simp only [Int.toNat_natCast, hx]
  refine wpAny_bind (wpAny_setField ho hd (by simp) (wpAny_pure ⟨x, rfl, wpAny_pure (hQ _ ?_ (Heap.SameBut.update ..))⟩))
  exact ⟨_, Heap.get?_update_self _ ho (Obj.isFreed_of_fields (Obj.data_mapFields hd _)), (Obj.cls_mapFields ..).trans hc, by
    rw [Obj.data_mapFields hd]; simp [rawInt]⟩
theorem nextTup_end {it t : Addr} {i : Nat} {items : Array Value} {Q : Value → Shared → Prop} (hh : A.handled = none) (hit : s.heap.IsTupleIter it t i) (ht : s.heap.IsTuple t items) (hx : items[i]? = none)
    (hE : ∀ h' e, Heap.ExtBut it s.heap h' → (∃ o, h'.get? e = some o ∧ o.cls = .type "StopIteration") → E (.ref e) { s with heap := h' }) :
    wpAny (model prog w) A (Builtin.SmallTypes.nextOf (.ref it)) Q E s := by
  obtain ⟨o, ho, hc, hd⟩ := id hit
  obtain ⟨ol, hol, _, nl, hdl⟩ := ht
  unfold Builtin.SmallTypes.nextOf
  refine wpAny_bind (wpAny_callSpecial?_slot (name := Str.ofString "__next__") hit.typeIs F.slot_tuple_iterator_next
    (wpAny_call_entry F.slot_tuple_iterator_next hit.typeIs F.entry_tuple_iterator_next ?_ (F.args_tuple_iterator_next_1 _)))
  show wpAny _ _ (field (.ref it) 0 >>= _) _ _ s
  refine wpAny_bind (wpAny_field ho hd (x := .ref t) rfl ?_)
  show wpAny _ _ (if (Value.ref t == Value.none) = true then _ else _) _ _ s
  rw [if_neg (show ¬ ((Value.ref t == Value.none) = true) from Bool.false_ne_true)]
  show wpAny _ _ (field (.ref it) 1 >>= _) _ _ s
  refine wpAny_bind (wpAny_field ho hd (x := .int i 0) rfl ?_)
  show wpAny _ _ (seqItems? (.ref t) >>= _) _ _ s
  refine wpAny_bind (wpAny_seqItems hol hdl ?_)
  simp only [Int.toNat_natCast, hx]
  refine wpAny_bind (wpAny_rule (wpAny_bind (wpAny_setField ho hd (by simp) ?_)))
  show wpAny _ _ (newExc (.type "StopIteration") [] >>= _) _ _ _
  refine wpAny_bind ?_
  simp only [newExc, newTuple]
  refine wpAny_bind (wpAny_newObj_type ?_ (by size_fits))
  refine wpAny_bind (m := firstArgMember _ _) (wpAny_of_eq (a := Value.none) (by first | rfl | (simp only [firstArgMember]; rfl)) ?_)
  refine wpAny_newObj_type ?_ (by size_fits)
  simp only [raiseNew]
  refine wpAny_bind (wpAny_handled ?_)
  first | rw [show A.in1.handled = none from hh] | rw [hh]
  refine wpAny_bind (wpAny_pure (wpAny_throw ?_))
  exact hE _ _ (((Heap.SameBut.update ..).extBut.push _).push _) ⟨_, Heap.get?_push_size _ rfl, rfl⟩
end
theorem drawsTup {prog : Program} {w : World} {A : Around} (hh : A.handled = none) (it l : Addr) (hne : l ≠ it) (items : Array Value) :
    Draws prog w A it [it, l] items.size (fun i v => items[i]? = some v) (fun i h => h.IsTupleIter it l i ∧ h.IsTuple l items) where
  live := fun _ _ st => let ⟨o, ho, _⟩ := st.1; ⟨o, ho⟩
  frame := fun _ _ _ st hk => ⟨st.1.at fun o e => hk it (by simp) o e, st.2.at fun o e => hk l (by simp) o e⟩
  item := fun i s Q E hi st hQ => by
    refine nextTup_item st.1 st.2 (x := items[i]) (by simp [hi]) fun h' hit' hs' => ?_
    exact hQ _ h' s.toks (by simp [hi]) ⟨hit', st.2.extBut hs'.extBut hne⟩ hs'
  done := fun s Q E st hE => nextTup_end hh st.1 st.2 (by simp) hE
open AutoSeq1 (wpAny_loadPart') in
theorem meets_enum_tup (l : Addr) (items : Array Value) (n : Nat) (dct : Option Addr) (sl : Array (Option Value)) :
    Meets (Builtin.«enumerate.__new__» ⟨[.type "enumerate", .ref l], []⟩) (fun _ R s => s.heap.get? l = some { cls := .type "tuple", dict := dct, data := .seq items n, slots := sl } ∧
      R (.ok (.ret (.ref (s.heap.push { cls := .type "tuple_iterator", data := .fields #[.ref l, .int 0 0] }).objs.size)))
        { s with heap := (s.heap.push { cls := .type "tuple_iterator", data := .fields #[.ref l, .int 0 0] }).push { cls := .type "enumerate", data := .fields #[.none, .bool false, .ref s.heap.objs.size, rawInt 0, .none, .none] } }) :=
  .of_wp fun prog w A R s h => by
    obtain ⟨hp, g, d, tk, os⟩ := s; obtain ⟨hl, h⟩ := h
    have hsub := sub_enumerate
    have hL : Heap.IsTuple (Shared.heap ⟨hp, g, d, tk, os⟩) l items := ⟨_, hl, rfl, n, rfl⟩
    wp_walk using wpAny_loadPart' hl
    refine wpAny_stack_any fun st => wpAny_pure ?_
    split
    · rename_i c _ _ _ _ _
      cases (c == Value.type "enumerate")
      · wp_walk using wpAny_loadPart' hl, wpAny_pyIter_tuple hL
        exact ⟨_, rfl, h⟩
      · wp_walk using wpAny_loadPart' hl, wpAny_pyIter_tuple hL
        exact ⟨_, rfl, h⟩
    · wp_walk using wpAny_loadPart' hl, wpAny_pyIter_tuple hL
      exact ⟨_, rfl, h⟩
section
variable {prog : Program} {w : World} {A : Around} {E : Value → Shared → Prop} {s : Shared}
theorem call_enum_tup {l : Addr} {items : Array Value} {Q : Value → Shared → Prop} (hL : s.heap.IsTuple l items)
    (h : ∀ h', IsEnum h' (s.heap.objs.size + 1) s.heap.objs.size 0 .none → h'.IsTupleIter s.heap.objs.size l 0 → h'.objs.size = s.heap.objs.size + 2 →
      (∀ b o, s.heap.get? b = some o → h'.get? b = some o) → Q (.ref (s.heap.objs.size + 1)) { s with heap := h' }) :
    wpAny (model prog w) A (call (.type "enumerate") [.ref l]) Q E s := by
  obtain ⟨⟨c, dct, dt, sl⟩, hl, hc, n, hd⟩ := hL
  replace hc : c = .type "tuple" := hc
  replace hd : dt = .seq items n := hd
  subst hc hd
  refine callType_new F.called_enumerate (by decide) (F.typeCall_enumerate_1 _) (F.newCall_enumerate_1 _) (fun obj => F.args_object_init_2 obj _) F.entry_enumerate_new
    (meets_enum_tup l items n dct sl) ⟨hl, ?_⟩
  have hz : (s.heap.push { cls := .type "tuple_iterator", data := .fields #[.ref l, .int 0 0] }).objs.size = s.heap.objs.size + 1 := Heap.size_push ..
  show _ ∧ _
  rw [hz]
  have he : IsEnum ((s.heap.push { cls := .type "tuple_iterator", data := .fields #[.ref l, .int 0 0] }).push
      { cls := .type "enumerate", data := .fields #[.none, .bool false, .ref s.heap.objs.size, rawInt 0, .none, .none] }) (s.heap.objs.size + 1) s.heap.objs.size 0 .none := by
    have := Heap.get?_push_size (s.heap.push { cls := .type "tuple_iterator", data := .fields #[.ref l, .int 0 0] })
      (o := { cls := .type "enumerate", data := .fields #[.none, .bool false, .ref s.heap.objs.size, rawInt 0, .none, .none] }) rfl
    rw [hz] at this; exact this
  exact ⟨⟨_, he, rfl⟩, h _ he ⟨_, Heap.get?_push_of_some _ (Heap.get?_push_size _ rfl), rfl, rfl⟩ (by rw [Heap.size_push, hz]) fun b o x => Heap.get?_push_of_some _ (Heap.get?_push_of_some _ x)⟩
end
section
variable {prog : Program} {w : World} {A : Around} {E E' E'' : Value → Shared → Prop} {h₀ h : Heap} {L : Addr} {m : Str → Option Value} {os : List (Addr × Obj)} {gs : Array GenState} {dr : Drawn} {t : Nat} {o : OsState} {name : Str} {scope : Scope} {a : Addr} {cd : Value} {Q : Flow → Shared → Prop}
theorem for_enum {x1 x2 : Str} {p1 p2 pt : Pos} {k1 : Nat} {body : List Stmt} {tc : Addr} {vs : List Value} (J : Nat → (Str → Option Value) → Prop)
    (S : St h₀ L m os h) (hm : (tc, tob vs) ∈ os) (hh : A.handled = none) (j : J 0 m)
    (turn : ∀ i v tk m h t, vs[i]? = some v → J i m → St h₀ L (fun y => if y = x2 then some v else if y = x1 then some (.int (i : Nat) tk) else m y) [] h →
      wpAny (model prog w) A (execs body (envOf name scope L a cd)) (fun f s' => f = .next ∧ ∃ m' h' t', s' = ⟨h', gs, dr, t', o⟩ ∧ h'.Ns L m' ∧ Heap.SameBut L h h' ∧ J (i + 1) m') (fun _ _ => False) ⟨h, gs, dr, t, o⟩)
    (fin : ∀ m h t, J vs.length m → St h₀ L m os h → Q .next ⟨h, gs, dr, t, o⟩)
    (hk : scope.kind = .function := by rfl) (hl1 : (envOf name scope L a cd).kindOf x1 = some .local := by rfl) (hl2 : (envOf name scope L a cd).kindOf x2 = some .local := by rfl) :
    wpAny (model prog w) A (call (.type "enumerate") [.ref tc]) (fun xv s₁ => wpAny (model prog w) A (pyIter xv) (fun it s₂ =>
      codeAny (model prog w) A (.forLoop (.Tuple [.Name x1 p1, .Name x2 p2] k1 pt) it body [] (envOf name scope L a cd)) (fun r s' => match r with | .ok f => Q f s' | .error e => cameBackBy (model prog w) A (envOf name scope L a cd) E e s') s₂) E' s₁) E'' ⟨h, gs, dr, t, o⟩ := by
  have ht : h.IsTuple tc vs.toArray := ⟨_, S.mem hm, rfl, 0, rfl⟩
  have hLs : L < h.objs.size := S.F.ns.lt
  have hab : h₀.objs.size ≤ L := S.F.above
  have htc : tc < h.objs.size := Heap.lt_size (S.mem hm)
  refine call_enum_tup (s := ⟨h, gs, dr, t, o⟩) ht (fun h' he hit hsz k => ?_)
  refine wpAny_pyIter_enum he ?_
  have S' := S.grow (h' := h') k
  refine codeAny_forLoop_frT (h₀ := h₀) (m := m) (news := os) (s := ⟨h', gs, dr, t, o⟩) (P2 := fun i v0 v1 => ∃ t, v0 = .int (i : Nat) t ∧ vs[i]? = some v1) hh
    (WalksT.enumerateD (drawsTup (A := A.in1) hh h.objs.size tc (Nat.ne_of_lt htc) vs.toArray) (h.objs.size + 1) (Nat.succ_ne_self _) ?_ (by simp))
    (fun i vals hv => ?_) hl1 hl2 ?_ ?_ ?_ ?_ ⟨⟨_, he⟩, hit, ht.at fun o e => k tc o e⟩ S'.F S'.N (fun i m news => news = os ∧ J i m) ⟨rfl, j⟩ ?_ ?_
  · intro hm
    rcases List.mem_cons.mp hm with e | hm
    · exact Nat.succ_ne_self _ e
    · exact Nat.ne_of_gt (Nat.lt_succ_of_lt htc) (List.mem_singleton.mp hm)
  · obtain ⟨t, x, hx, rfl⟩ := hv
    exact ⟨_, _, rfl, t, rfl, by simpa using hx⟩
  · show (scope.kind == .class || (scope.kind == .module && L != mainGlobals)) = false
    rw [hk]; rfl
  · intro hm
    rcases List.mem_cons.mp hm with e | hm
    · exact Nat.ne_of_lt (Nat.lt_succ_of_lt hLs) e
    · rcases List.mem_cons.mp hm with e | hm
      · exact Nat.ne_of_lt hLs e
      · exact (S.N _ ‹(tc, tob vs) ∈ os›).2.1 (List.mem_singleton.mp hm).symm
  · intro b hb
    have hb' : h₀.objs.size ≤ b := by
      rcases List.mem_cons.mp hb with e | hb
      · have : b = h.objs.size + 1 := e
        rw [this]; exact Nat.le_trans hab (Nat.le_of_lt (Nat.lt_succ_of_lt hLs))
      · have : b = h.objs.size := List.mem_singleton.mp hb
        rw [this]; exact Nat.le_trans hab (Nat.le_of_lt hLs)
    exact Heap.get?_none_of_le hb'
  · intro p hp hb
    have hp' : p.1 < h.objs.size := Heap.lt_size (S.N p hp).1
    rcases List.mem_cons.mp hb with e | hb
    · have : p.1 = h.objs.size + 1 := e
      rw [this] at hp'; exact Nat.lt_irrefl _ (Nat.lt_of_succ_lt hp')
    · have : p.1 = h.objs.size := List.mem_singleton.mp hb
      rw [this] at hp'; exact Nat.lt_irrefl _ hp'
  · rintro i v0 v1 m₁ news₁ s₁ own ⟨h₁, tk₁, rfl⟩ hi ⟨tv, rfl, hv⟩ ⟨rfl, j₁⟩ ha hown F₁ N₁
    refine wpAny_mono (turn i v1 tv m₁ h₁ tk₁ hv j₁ ⟨F₁, News.nil, List.nodup_nil⟩) (fun f s' q => ?_) (fun _ _ x => x.elim)
    obtain ⟨rfl, m', h₂, t₂, rfl, hn, hs, j₂⟩ := q
    exact ⟨rfl, h₂, t₂, m', news₁, rfl, F₁.set hn hs, N₁.set hs, rfl, rfl, j₂⟩
  · rintro h₂ t₂ m₂ news₂ F₂ N₂ ha ⟨rfl, j₂⟩
    exact fin m₂ h₂ t₂ (by simpa using j₂) ⟨F₂, N₂, S.D⟩
end
/-- one object that a call has made goes onto the caller's list -/
theorem St.adopt1 {h₀ h h' : Heap} {L b : Addr} {m : Str → Option Value} {os : List (Addr × Obj)} {ob : Obj} (S : St h₀ L m os h) (k : h.StaysIn h') (hn : h.get? b = none) (e : h'.get? b = some ob) : St h₀ L m ((b, ob) :: os) h' := by
  have T := S.grow k
  refine ⟨T.F, fun p hp => ?_, ?_⟩
  · rcases List.mem_cons.mp hp with rfl | hp
    · refine ⟨e, fun e' => ?_, ?_⟩
      · obtain ⟨oL, _, _, eL, _⟩ := S.F.ns
        have e2 : b = L := e'
        rw [e2, eL] at hn; cases hn
      · cases e' : h₀.get? b with
        | none => rfl
        | some o => have := S.F.keep _ _ e'; rw [hn] at this; cases this
    · exact T.N p hp
  · rw [List.map_cons, List.nodup_cons]
    refine ⟨fun q => ?_, S.D⟩
    obtain ⟨p, hp, e'⟩ := List.mem_map.mp q
    have h2 := (S.N p hp).1
    have e2 : p.1 = b := e'
    rw [e2, hn] at h2; cases h2
theorem St.perm {h₀ h : Heap} {L : Addr} {m : Str → Option Value} {os os' : List (Addr × Obj)} (S : St h₀ L m os h) (p : os.Perm os') : St h₀ L m os' h :=
  ⟨S.F, fun q hq => S.N q (p.symm.subset hq), ((p.map Prod.fst).nodup_iff).mp S.D⟩
theorem perm_ads {α : Type} (ads pre rest : List α) (X Y : α) : (ads ++ (pre ++ X :: Y :: rest)).Perm (pre ++ X :: Y :: (ads ++ rest)) := by
  refine (List.perm_append_comm_assoc ads pre _).trans (List.Perm.append_left pre ?_)
  exact List.perm_middle.trans (List.Perm.cons X List.perm_middle)
noncomputable def prodGo (T p : Int) : List Int → Nat → Int → Option Int
  | [], _, v => some v
  | k :: r, i, v => if 0 ≤ k ∧ k ≤ 1000 ∧ -1000 < p + i - T ∧ p + i - T < 1000 ∧ Builtin.Int.intBits v ≤ 64 then prodGo T p r (i + 1) (v * (p + i - T) ^ k.toNat) else none
section
variable {prog : Program} {w : World} {A : Around} {E : Value → Shared → Prop} {h₀ h : Heap} {L : Addr} {m : Str → Option Value} {os : List (Addr × Obj)} {gs : Array GenState} {dr : Drawn} {t : Nat} {o : OsState} {Q : Value → Shared → Prop}
theorem counts_call {x : Str} {tx : Tok} {c : List Int} (C : Cx w h₀) (S : St h₀ L m os h) (hroom : A.depth + 3 < recursionLimit) (hu : A.units + 20 < cLine) (hh : A.handled = none) (hr : countsM x = some c)
    (q : ∀ h' t' a vs n, St h₀ L m ((a, lob vs n) :: os) h' → IntsAre vs c → Q (.ref a) ⟨h', gs, dr, t', o⟩) : wpAny (model prog w) A (call (.ref 129) [.str x tx]) Q E ⟨h, gs, dr, t, o⟩ :=
  counts_spec (s := ⟨h, gs, dr, t, o⟩) (C.keeps S.F.keep) hroom hu hh hr (fun h' t' a vs n k hn e hI => q h' t' a vs n (S.adopt1 k hn e) hI)
theorem lead_call {x raw : Str} {tx : Tok} (C : Cx w h₀) (S : St h₀ L m os h) (hroom : A.depth + 6 < recursionLimit) (hh : A.handled = none) (hr : leadRaw x = some raw)
    (q : ∀ h' t' a ads, St h₀ L m (ads ++ os) h' → WsAt ads a (wsM raw).2.1 (wsM raw).2.2.1 (wsM raw).2.2.2 (wsM raw).1 → Q (.ref a) ⟨h', gs, dr, t', o⟩) : wpAny (model prog w) A (call (.ref 136) [.str x tx]) Q E ⟨h, gs, dr, t, o⟩ :=
  lead_spec (C.keeps S.F.keep) hroom hh hr (fun h' t' a _ _ ads S' W => q h' t' a ads (S.adopt S') W)
theorem tog_call {c : List Int} {T p r : Int} {t1 t2 : Tok} {a : Addr} {vs : List Value} {n : Nat} (C : Cx w h₀) (S : St h₀ L m os h) (hroom : A.depth < recursionLimit) (hh : A.handled = none) (hm : (a, lob vs n) ∈ os) (hI : IntsAre vs c) (hr : togM c T p = some r)
    (q : ∀ h' t' tk, St h₀ L m os h' → Q (.int r tk) ⟨h', gs, dr, t', o⟩) : wpAny (model prog w) A (call (.ref 143) [.ref a, .int T t1, .int p t2]) Q E ⟨h, gs, dr, t, o⟩ :=
  tog_spec (s := ⟨h, gs, dr, t, o⟩) (C.keeps S.F.keep) hroom hh (S.mem hm) hI hr (fun h' t' tk k => q h' t' tk (S.grow k))
theorem tupI {value slice : Expr} {tn : Addr} {vs : List Value} {k : Int} {u : Tok} {z : Value} (S : St h₀ L m os h) (hm : (tn, tob vs) ∈ os) (h0 : 0 ≤ k) (h1 : k < 2 ^ 63) (hx : vs[k.toNat]? = some z) (q : Q z ⟨h, gs, dr, t, o⟩)
    (hs : subscripted slice false (.ref tn) (.int k u) = operate [.ref tn, .int k u] (getItem (.ref tn) (.int k u)) := by with_unfolding_all rfl) :
    wpAny (model prog w) A (subscriptTail value slice (.ref tn) (.int k u)) Q E ⟨h, gs, dr, t, o⟩ := by
  have hlt : k.toNat < vs.length := by
    rcases Nat.lt_or_ge k.toNat vs.length with e | e
    · exact e
    · rw [List.getElem?_eq_none e] at hx; cases hx
  refine item_tupleT (s := ⟨h, gs, dr, t, o⟩) (j := k.toNat) (isT S hm) (by omega) h1 ?_ hx q hs
  unfold seqIndex?
  simp only [show ¬ k < 0 by omega, if_false]
  first | (rw [if_pos (by omega)]; done) | (simp; omega)
end
theorem powI {prog : Program} {w : World} {A : Around} {E : Value → Shared → Prop} {h : Heap} {gs : Array GenState} {dr : Drawn} {t : Nat} {o : OsState} {Q : Value → Shared → Prop} {i j : Int} {u v : Tok} (hn : 0 ≤ j) (hn2 : j ≤ 1000000) (ha : i.natAbs < 1000) (q : ∀ t' u, Q (.int (i ^ j.toNat) u) ⟨h, gs, dr, t', o⟩) : wpAny (model prog w) A (binaryOp .Pow (.int i u) (.int j v)) Q E ⟨h, gs, dr, t, o⟩ :=
  pow_int_small (s := ⟨h, gs, dr, t, o⟩) hn hn2 (by omega) (q _ _)
noncomputable def ptsOk (T : Int) (cnt c : List Int) : Prop := ∀ p : Nat, (p : Int) ≤ T → ∃ v, prodGo T p cnt 0 1 = some v ∧ togM c T p = some v
section
variable {prog : Program} {w : World} {A : Around} {E : Value → Shared → Prop} {h₀ h : Heap} {L fa : Addr} {cd : Value} {m : Str → Option Value} {gs : Array GenState} {dr : Drawn} {t : Nat} {o : OsState} {Q : Flow → Shared → Prop}
theorem lawB_turn {x raw : Str} {tx : Tok} {c cnt : List Int} {n nt b : Nat} {T : Int} {la lb : Addr} {lvs bvs : List Value} {k1 k2 : Nat} {pre rest : List (Addr × Obj)} (C : Cx w h₀) (hroom : A.depth + 9 < recursionLimit) (hu : A.units + 30 < cLine) (hh : A.handled = none)
    (hc : countsM x = some c) (hr : leadRaw x = some raw) (hW : wsM raw = (b, n, nt, cnt)) (hx : x.length ≤ 100) (hT : T = Txt.count x (Str.ofString "\t")) (hT0 : 0 ≤ T ∧ T ≤ 100) (hp : ptsOk T cnt c)
    (S : St h₀ L m (pre ++ (la, lob lvs k1) :: (lb, lob bvs k2) :: rest) h) (hz1 : lvs.length ≤ 100) (hz2 : bvs.length ≤ 100)
    (m1 : m (Str.ofString "word") = some (.str x tx)) (m2 : m (Str.ofString "leads") = some (.ref la)) (m3 : m (Str.ofString "books") = some (.ref lb))
    (q : ∀ h' t' m' ads a bk cl cvs n' t1 t2, St h₀ L m' (pre ++ (la, lob (lvs ++ [.ref a]) (k1 + 1)) :: (lb, lob (bvs ++ [.ref bk]) (k2 + 1)) :: (ads ++ rest)) h' → WsAt ads a n nt cnt b →
      (bk, lob [.ref cl, .int T t1, .int (x.length - T) t2] 0) ∈ ads → (cl, lob cvs n') ∈ ads → IntsAre cvs c → m' (Str.ofString "leads") = some (.ref la) → m' (Str.ofString "books") = some (.ref lb) → Q .next ⟨h', gs, dr, t', o⟩) :
    wpAny (model prog w) A (execs (forB (lawB.getD 9 default)) (lawE L fa cd)) Q E ⟨h, gs, dr, t, o⟩ := by
  have hx' : x.length ≤ sizeLine := by rw [sizeLine_eq]; omega
  show wpAny _ _ (execs (_ :: _) _) _ _ _
  with_reducible refine wpAny_execs_cons ?_
  (with_reducible refine wpAny_Assign_Name ?_ ?ka); (case ka => rfl)
  (with_reducible refine Call_ ?_ ?ka); (case ka => rfl)
  (with_reducible refine' rdG ?ka ?kb ?kc ?_ ?kd ?ke ?kf); (case ka => with_reducible assumption); (case kb => with_reducible assumption); (case kc => first | with_reducible exact gl0 _ | with_reducible exact gl1 _ | with_reducible exact gl2 _ | with_reducible exact gl3 _ | with_reducible exact gl4 _ | with_reducible exact gl5 _ | with_reducible exact gl6 _ | with_reducible exact gl7 _ | with_reducible exact gl8 _ | with_reducible exact gl9 _); (case kd => rfl); (case ke => rfl); (case kf => decide)
  (with_reducible refine' cwf ?ka ?kb ?_ ?kc ?kd); (case ka => with_reducible assumption); (case kb => exact rfl); (case kc => rfl); (case kd => rfl)
  (with_reducible refine spliced_more ?_ ?ka); (case ka => rfl)
  (with_reducible refine' rd ?ka ?kb ?_ ?kc ?kd ?ke); (case ka => with_reducible assumption); (case kb => walk_at "look"); (case kc => rfl); (case kd => rfl); (case ke => decide)
  with_reducible refine spliced_none ?_
  (with_reducible refine' And.intro (inK ?ka ?kb) ?_); (case ka => with_reducible assumption); (case kb => with_reducible assumption)
  refine' counts_call C S ?hr ?hu hh hc (fun h₁ t₁ cl cvs n' S₁ I₁ => ?_)
  case hr => omega
  case hu => omega
  clear S
  (with_reducible refine' sto ?ka ?_ ?kb ?kc); (case ka => with_reducible assumption); (case kb => rfl); (case kc => rfl); intro _ _ _
  with_reducible refine wpAny_execs_cons ?_
  with_reducible refine wpAny_If ?_
  (with_reducible refine wpAny_isTrue_Compare1 ?_ ?ka); (case ka => with_unfolding_all rfl)
  (with_reducible refine' rd ?ka ?kb ?_ ?kc ?kd ?ke); (case ka => with_reducible assumption); (case kb => walk_at "look"); (case kc => rfl); (case kd => rfl); (case ke => decide)
  with_reducible refine wpAny_Constant_none ?_
  refine is_ref_none ?_
  with_reducible refine trB ?_
  with_reducible refine itF ?_
  with_reducible refine wpAny_execs_nil ?_
  with_reducible refine wpAny_execs_cons ?_
  (with_reducible refine wpAny_Assign_Name ?_ ?ka); (case ka => rfl)
  (with_reducible refine Call_ ?_ ?ka); (case ka => rfl)
  (with_reducible refine' rdG ?ka ?kb ?kc ?_ ?kd ?ke ?kf); (case ka => with_reducible assumption); (case kb => with_reducible assumption); (case kc => first | with_reducible exact gl0 _ | with_reducible exact gl1 _ | with_reducible exact gl2 _ | with_reducible exact gl3 _ | with_reducible exact gl4 _ | with_reducible exact gl5 _ | with_reducible exact gl6 _ | with_reducible exact gl7 _ | with_reducible exact gl8 _ | with_reducible exact gl9 _); (case kd => rfl); (case ke => rfl); (case kf => decide)
  (with_reducible refine' cwf ?ka ?kb ?_ ?kc ?kd); (case ka => with_reducible assumption); (case kb => exact rfl); (case kc => rfl); (case kd => rfl)
  (with_reducible refine spliced_more ?_ ?ka); (case ka => rfl)
  (with_reducible refine' rd ?ka ?kb ?_ ?kc ?kd ?ke); (case ka => with_reducible assumption); (case kb => walk_at "look"); (case kc => rfl); (case kd => rfl); (case ke => decide)
  with_reducible refine spliced_none ?_
  (with_reducible refine' And.intro (inK ?ka ?kb) ?_); (case ka => with_reducible assumption); (case kb => with_reducible assumption)
  rename_i h₂ t₂ S₂
  refine' lead_call C S₂ ?hr hh hr (fun h₃ t₃ a ads S₃ W₃ => ?_)
  case hr => omega
  clear S₂ S₁
  rw [hW] at W₃
  dsimp only at W₃
  obtain ⟨K, hK⟩ : ∃ K, K = ads ++ (cl, lob cvs n') :: (pre ++ (la, lob lvs k1) :: (lb, lob bvs k2) :: rest) := ⟨_, rfl⟩
  rw [← hK] at S₃
  have WK : WsAt K a n nt cnt b := by rw [hK]; exact W₃.mono (fun p hp => List.mem_append_left _ hp)
  have cK : (cl, lob cvs n') ∈ K := by rw [hK]; exact List.mem_append_right _ (.head _)
  (with_reducible refine' sto ?ka ?_ ?kb ?kc); (case ka => with_reducible assumption); (case kb => rfl); (case kc => rfl); intro _ _ _
  with_reducible refine wpAny_execs_cons ?_
  (with_reducible refine wpAny_Assign_Name ?_ ?ka); (case ka => rfl)
  (with_reducible refine' MethodCall_ ?_ ?ka); (case ka => rfl)
  (with_reducible refine' rd ?ka ?kb ?_ ?kc ?kd ?ke); (case ka => with_reducible assumption); (case kb => walk_at "look"); (case kc => rfl); (case kd => rfl); (case ke => decide)
  with_reducible refine GM.count ?_
  (with_reducible refine cwm ?_ ?ka ?kb); (case ka => rfl); (case kb => rfl)
  (with_reducible refine spliced_more ?_ ?ka); (case ka => rfl)
  (with_reducible refine cStr ?_); intro _ _
  with_reducible refine spliced_none ?_
  (with_reducible refine countS ?_); intro _ _
  (with_reducible refine' sto ?ka ?_ ?kb ?kc); (case ka => with_reducible assumption); (case kb => rfl); (case kc => rfl); intro _ _ _
  with_reducible refine wpAny_execs_cons ?_
  (with_reducible refine' wpAny_For ?_ ?ka); (case ka => intro _; rfl)
  (with_reducible refine Call_ ?_ ?ka); (case ka => rfl)
  (with_reducible refine' rdB ?ka ?kb ?kc ?kd ?_ ?ke ?kf ?kg ?kh); (case ka => with_reducible assumption); (case kb => with_reducible assumption); (case kc => first | with_reducible exact gb0 _ | with_reducible exact gb1 _ | with_reducible exact gb2 _ | with_reducible exact gb3 _ | with_reducible exact gb4 _); (case kd => first | exact boot_len | exact boot_range | exact boot_enumerate | exact boot_tuple | exact boot_sum); (case ke => decide); (case kf => rfl); (case kg => rfl); (case kh => decide)
  (with_reducible refine callWith_type1 ?_ ?ka ?kb); (case ka => rfl); (case kb => rfl)
  (with_reducible refine spliced_more ?_ ?ka); (case ka => rfl)
  with_reducible refine wpAny_BinOp ?_
  (with_reducible refine' rd ?ka ?kb ?_ ?kc ?kd ?ke); (case ka => with_reducible assumption); (case kb => walk_at "look"); (case kc => rfl); (case kd => rfl); (case ke => decide)
  (with_reducible refine cInt ?_); intro _ _
  (with_reducible refine addI ?_); intro _ _
  with_reducible refine spliced_none ?_
  rw [← hT]
  refine' rng1 ?S (by omega) (by omega) (fun I oI h₆ t₆ S₆ wt => ?_)
  case S => with_reducible assumption
  have S₆' : St h₀ L _ ((I, oI) :: (K ++ [])) h₆ := (List.append_nil K).symm ▸ S₆
  clear S₆ S₃
  have hn : (T + 1).toNat = T.toNat + 1 := by omega
  refine for_loop (con := K) (os := []) (Walks.range (by exact hh) I 0 1 (T + 1).toNat) (fun i h wt => ⟨_, wt⟩) (fun b hb => .inl (List.mem_singleton.mp hb))
    (fun i m os => os = [] ∧ (∃ tt, m (Str.ofString "tabs") = some (.int T tt)) ∧ m (Str.ofString "counts") = some (.ref cl) ∧ m (Str.ofString "lead") = some (.ref a) ∧ m (Str.ofString "word") = some (.str x tx) ∧ m (Str.ofString "leads") = some (.ref la) ∧ m (Str.ofString "books") = some (.ref lb))
    ?_ ?_ S₆' wt ⟨rfl, ⟨_, by rw [hT]; walk_at "look"⟩, by walk_at "look", by walk_at "look", by walk_at "look", by walk_at "look", by walk_at "look"⟩
  · rintro i m os v oI h t hi ⟨tk, rfl⟩ ⟨rfl, ⟨tt, m1⟩, m2, m3, m4, m5, m6⟩ S
    have ei : (0 : Int) + (i : Int) * 1 = i := by omega
    rw [ei, List.append_nil] at S
    obtain ⟨pv, hpv, htg⟩ := hp i (by omega)
    clear S₆'
    obtain ⟨⟨dx, es, kk, tn, tc, tvs, ta1, ta2, ta3, e1, e2, e3, e4, e5, e6, e7, e8, e9⟩⟩ := id WK
    with_reducible refine wpAny_execs_cons ?_
    (with_reducible refine wpAny_Assign_Name ?_ ?ka); (case ka => rfl)
    (with_reducible refine cInt ?_); intro _ _
    (with_reducible refine' sto ?ka ?_ ?kb ?kc); (case ka => with_reducible assumption); (case kb => rfl); (case kc => rfl); intro _ _ _
    with_reducible refine wpAny_execs_cons ?_
    (with_reducible refine' wpAny_For ?_ ?ka); (case ka => intro _; rfl)
    (with_reducible refine Call_ ?_ ?ka); (case ka => rfl)
    (with_reducible refine' rdB ?ka ?kb ?kc ?kd ?_ ?ke ?kf ?kg ?kh); (case ka => with_reducible assumption); (case kb => with_reducible assumption); (case kc => first | with_reducible exact gb0 _ | with_reducible exact gb1 _ | with_reducible exact gb2 _ | with_reducible exact gb3 _ | with_reducible exact gb4 _); (case kd => first | exact boot_len | exact boot_range | exact boot_enumerate | exact boot_tuple | exact boot_sum); (case ke => decide); (case kf => rfl); (case kg => rfl); (case kh => decide)
    (with_reducible refine callWith_type1 ?_ ?ka ?kb); (case ka => rfl); (case kb => rfl)
    (with_reducible refine spliced_more ?_ ?ka); (case ka => rfl)
    with_reducible refine Subscript_ ?_
    (with_reducible refine Attribute_any_ ?_ ?ka); (case ka => with_unfolding_all rfl)
    (with_reducible refine' rd ?ka ?kb ?_ ?kc ?kd ?ke); (case ka => with_reducible assumption); (case kb => walk_at "look"); (case kc => rfl); (case kd => rfl); (case ke => decide)
    refine' getA (attr := none) (x := a) C ?S (.tail _ e1) (.tail _ e2) rfl rfl rfl rfl e5 rfl (fun t₇ => ?_)
    case S => with_reducible assumption
    (with_reducible refine cInt ?_); intro _ _
    refine' tupI (tn := tn) ?S (.tail _ e7) (by decide) (by decide) rfl ?_
    case S => with_reducible assumption
    with_reducible refine spliced_none ?_
    rename_i h₈ t₈ S₈ t₉ u₉
    refine for_enum (fun j m => ∃ v tv, prodGo T i (cnt.drop j) j v = some pv ∧ m (Str.ofString "value") = some (.int v tv) ∧ (∃ tp, m (Str.ofString "point") = some (.int i tp)) ∧ m (Str.ofString "tabs") = some (.int T tt) ∧ m (Str.ofString "counts") = some (.ref cl) ∧ m (Str.ofString "lead") = some (.ref a) ∧ m (Str.ofString "word") = some (.str x tx) ∧ m (Str.ofString "leads") = some (.ref la) ∧ m (Str.ofString "books") = some (.ref lb))
      S₈ (.tail _ e8) hh ⟨1, _, hpv, by walk_at "look", ⟨_, by walk_at "look"⟩, by walk_at "look", by walk_at "look", by walk_at "look", by walk_at "look", by walk_at "look", by walk_at "look"⟩ ?_ ?_
    · rintro j z tk₁ m h₁₀ t₁₀ hz ⟨v, tv, hv, n1, ⟨tp, n2⟩, n3, n4, n5, n6, n7, n8⟩ S₁₀
      obtain ⟨kz, tz, rfl, hkz⟩ := e9.at j z hz
      have hd : cnt.drop j = kz :: cnt.drop (j + 1) := by
        obtain ⟨hlt, e⟩ := List.getElem?_eq_some_iff.mp hkz
        rw [List.drop_eq_getElem_cons hlt, e]
      rw [hd] at hv
      unfold prodGo at hv
      split at hv
      · next hb =>
        clear S₈ S
        with_reducible refine wpAny_execs_cons ?_
        with_reducible refine wpAny_AugAssign_Name ?_
        (with_reducible refine' rdn ?ka ?kb ?_ ?kc ?kd); (case ka => with_reducible assumption); (case kb => walk_at "look"); (case kc => rfl); (case kd => rfl)
        with_reducible refine wpAny_BinOp ?_
        with_reducible refine wpAny_BinOp ?_
        with_reducible refine wpAny_BinOp ?_
        (with_reducible refine' rd ?ka ?kb ?_ ?kc ?kd ?ke); (case ka => with_reducible assumption); (case kb => walk_at "look"); (case kc => rfl); (case kd => rfl); (case ke => decide)
        (with_reducible refine' rd ?ka ?kb ?_ ?kc ?kd ?ke); (case ka => with_reducible assumption); (case kb => walk_at "look"); (case kc => rfl); (case kd => rfl); (case ke => decide)
        (with_reducible refine addI ?_); intro _ _
        (with_reducible refine' rd ?ka ?kb ?_ ?kc ?kd ?ke); (case ka => with_reducible assumption); (case kb => walk_at "look"); (case kc => rfl); (case kd => rfl); (case ke => decide)
        (with_reducible refine subI ?_); intro _ _
        (with_reducible refine' rd ?ka ?kb ?_ ?kc ?kd ?ke); (case ka => with_reducible assumption); (case kb => walk_at "look"); (case kc => rfl); (case kd => rfl); (case ke => decide)
        refine powI hb.1 (by omega) (by omega) (fun t₁₁ u₁₁ => ?_)
        refine imulI (IntMulOk.of_left hb.2.2.2.2) (fun t₁₂ u₁₂ => ?_)
        refine wpAny_storeName_local (h := fun h' hn hs => ?_) rfl S₁₀.F.ns rfl
        refine wpAny_execs_nil ?_
        exact ⟨rfl, _, _, _, rfl, hn, hs, _, _, hv, by walk_at "look", ⟨_, by walk_at "look"⟩, by walk_at "look", by walk_at "look", by walk_at "look", by walk_at "look", by walk_at "look", by walk_at "look"⟩
      · cases hv
    · rintro m h₁₀ t₁₀ ⟨v, tv, hv, n1, ⟨tp, n2⟩, n3, n4, n5, n6, n7, n8⟩ S₁₀
      have hv' : v = pv := by
        rw [e9.length, List.drop_length] at hv
        exact Option.some.inj hv
      subst hv'
      clear S₈ S
      with_reducible refine wpAny_execs_cons ?_
      with_reducible refine wpAny_If ?_
      (with_reducible refine wpAny_isTrue_Compare1 ?_ ?ka); (case ka => with_unfolding_all rfl)
      (with_reducible refine' rd ?ka ?kb ?_ ?kc ?kd ?ke); (case ka => with_reducible assumption); (case kb => walk_at "look"); (case kc => rfl); (case kd => rfl); (case ke => decide)
      (with_reducible refine Call_ ?_ ?ka); (case ka => rfl)
      (with_reducible refine' rdG ?ka ?kb ?kc ?_ ?kd ?ke ?kf); (case ka => with_reducible assumption); (case kb => with_reducible assumption); (case kc => first | with_reducible exact gl0 _ | with_reducible exact gl1 _ | with_reducible exact gl2 _ | with_reducible exact gl3 _ | with_reducible exact gl4 _ | with_reducible exact gl5 _ | with_reducible exact gl6 _ | with_reducible exact gl7 _ | with_reducible exact gl8 _ | with_reducible exact gl9 _); (case kd => rfl); (case ke => rfl); (case kf => decide)
      (with_reducible refine' cwf ?ka ?kb ?_ ?kc ?kd); (case ka => with_reducible assumption); (case kb => exact rfl); (case kc => rfl); (case kd => rfl)
      (with_reducible refine spliced_more ?_ ?ka); (case ka => rfl)
      (with_reducible refine' rd ?ka ?kb ?_ ?kc ?kd ?ke); (case ka => with_reducible assumption); (case kb => walk_at "look"); (case kc => rfl); (case kd => rfl); (case ke => decide)
      (with_reducible refine spliced_more ?_ ?ka); (case ka => rfl)
      (with_reducible refine' rd ?ka ?kb ?_ ?kc ?kd ?ke); (case ka => with_reducible assumption); (case kb => walk_at "look"); (case kc => rfl); (case kd => rfl); (case ke => decide)
      (with_reducible refine spliced_more ?_ ?ka); (case ka => rfl)
      (with_reducible refine' rd ?ka ?kb ?_ ?kc ?kd ?ke); (case ka => with_reducible assumption); (case kb => walk_at "look"); (case kc => rfl); (case kd => rfl); (case ke => decide)
      with_reducible refine spliced_none ?_
      (with_reducible refine' And.intro (inK ?ka ?kb) ?_); (case ka => with_reducible assumption); (case kb => with_reducible assumption)
      refine' tog_call C ?S ?hr hh (.tail _ cK) I₁ htg (fun h₁₂ t₁₂ tk₁₂ S₁₂ => ?_)
      case S => with_reducible assumption
      case hr => omega
      with_reducible refine neI ?_
      with_reducible refine trB ?_
      rw [if_neg (by simp)]
      with_reducible refine wpAny_execs_nil ?_
      with_reducible refine wpAny_execs_nil ?_
      exact ⟨_, [], _, _, rfl, (List.append_nil K).symm ▸ S₁₂, rfl, ⟨_, n3⟩, n4, n5, n6, n7, n8⟩
  · rintro m os h t ⟨rfl, ⟨tt, m1⟩, m2, m3, m4, m5, m6⟩ S
    rw [List.append_nil, hK] at S
    have S₂₀ : St h₀ L m (pre ++ (la, lob lvs k1) :: (lb, lob bvs k2) :: ((ads ++ [(cl, lob cvs n')]) ++ rest)) h := (by simpa using S : St h₀ L m ((ads ++ [(cl, lob cvs n')]) ++ (pre ++ (la, lob lvs k1) :: (lb, lob bvs k2) :: rest)) h).perm (perm_ads _ _ _ _ _)
    clear S S₆'
    with_reducible refine wpAny_execs_cons ?_
    (with_reducible refine wpAny_Expr ?_ ?ka ?kb); (case ka => rfl); (case kb => rfl)
    (with_reducible refine' MethodCall_ ?_ ?ka); (case ka => rfl)
    (with_reducible refine' rd ?ka ?kb ?_ ?kc ?kd ?ke); (case ka => with_reducible assumption); (case kb => walk_at "look"); (case kc => rfl); (case kd => rfl); (case ke => decide)
    refine apM S₂₀ (List.mem_append_right _ (.head _)) ?_
    (with_reducible refine cwm ?_ ?ka ?kb); (case ka => rfl); (case kb => rfl)
    (with_reducible refine spliced_more ?_ ?ka); (case ka => rfl)
    (with_reducible refine' rd ?ka ?kb ?_ ?kc ?kd ?ke); (case ka => with_reducible assumption); (case kb => walk_at "look"); (case kc => rfl); (case kd => rfl); (case ke => decide)
    with_reducible refine spliced_none ?_
    refine apL S₂₀ (by rw [sizeLine_eq]; omega) (fun h₂₁ S₂₁ => ?_)
    clear S₂₀
    with_reducible refine wpAny_execs_cons ?_
    (with_reducible refine wpAny_Expr ?_ ?ka ?kb); (case ka => rfl); (case kb => rfl)
    (with_reducible refine' MethodCall_ ?_ ?ka); (case ka => rfl)
    (with_reducible refine' rd ?ka ?kb ?_ ?kc ?kd ?ke); (case ka => with_reducible assumption); (case kb => walk_at "look"); (case kc => rfl); (case kd => rfl); (case ke => decide)
    refine apM S₂₁ (List.mem_append_right _ (.tail _ (.head _))) ?_
    (with_reducible refine cwm ?_ ?ka ?kb); (case ka => rfl); (case kb => rfl)
    (with_reducible refine spliced_more ?_ ?ka); (case ka => rfl)
    with_reducible refine List_ ?_
    (with_reducible refine spliced_more ?_ ?ka); (case ka => rfl)
    (with_reducible refine' rd ?ka ?kb ?_ ?kc ?kd ?ke); (case ka => with_reducible assumption); (case kb => walk_at "look"); (case kc => rfl); (case kd => rfl); (case ke => decide)
    (with_reducible refine spliced_more ?_ ?ka); (case ka => rfl)
    (with_reducible refine' rd ?ka ?kb ?_ ?kc ?kd ?ke); (case ka => with_reducible assumption); (case kb => walk_at "look"); (case kc => rfl); (case kd => rfl); (case ke => decide)
    (with_reducible refine spliced_more ?_ ?ka); (case ka => rfl)
    with_reducible refine wpAny_BinOp ?_
    (with_reducible refine Call_ ?_ ?ka); (case ka => rfl)
    (with_reducible refine' rdB ?ka ?kb ?kc ?kd ?_ ?ke ?kf ?kg ?kh); (case ka => with_reducible assumption); (case kb => with_reducible assumption); (case kc => first | with_reducible exact gb0 _ | with_reducible exact gb1 _ | with_reducible exact gb2 _ | with_reducible exact gb3 _ | with_reducible exact gb4 _); (case kd => first | exact boot_len | exact boot_range | exact boot_enumerate | exact boot_tuple | exact boot_sum); (case ke => decide); (case kf => rfl); (case kg => rfl); (case kh => decide)
    (with_reducible refine callWith_builtin1 ?_ ?ka ?kb); (case ka => rfl); (case kb => rfl)
    (with_reducible refine spliced_more ?_ ?ka); (case ka => rfl)
    (with_reducible refine' rd ?ka ?kb ?_ ?kc ?kd ?ke); (case ka => with_reducible assumption); (case kb => walk_at "look"); (case kc => rfl); (case kd => rfl); (case ke => decide)
    with_reducible refine spliced_none ?_
    (with_reducible refine lenS ?ka ?_); (case ka => with_reducible assumption); intro _ _
    (with_reducible refine' rd ?ka ?kb ?_ ?kc ?kd ?ke); (case ka => with_reducible assumption); (case kb => walk_at "look"); (case kc => rfl); (case kd => rfl); (case ke => decide)
    (with_reducible refine subI ?_); intro _ _
    with_reducible refine spliced_none ?_
    (with_reducible refine' newL ?ka ?_ ?kb); (case ka => with_reducible assumption); (case kb => walk_at "sz"); intro _ _ _ _
    with_reducible refine spliced_none ?_
    rename_i h₂₂ bk S₂₂ f₂₂
    obtain ⟨tu, S₂₃⟩ : ∃ tu, St h₀ L m (((bk, lob [.ref cl, .int T tt, .int (x.length - T) tu] 0) :: (pre ++ [(la, lob (lvs ++ [.ref a]) (k1 + 1))])) ++ (lb, lob bvs k2) :: ((ads ++ [(cl, lob cvs n')]) ++ rest)) h₂₂ := ⟨_, by simpa using S₂₂⟩
    clear S₂₂ S₂₁
    refine apL S₂₃ (by rw [sizeLine_eq]; omega) (fun h₂₄ S₂₄ => ?_)
    clear S₂₃
    with_reducible refine wpAny_execs_nil ?_
    refine q _ _ _ ((bk, lob [.ref cl, .int T tt, .int (x.length - T) tu] 0) :: (ads ++ [(cl, lob cvs n')])) a bk cl cvs n' tt tu ?_ (W₃.mono fun p hp => .tail _ (List.mem_append_left _ hp)) (.head _) (.tail _ (List.mem_append_right _ (.head _))) I₁ m5 m6
    exact (by simpa using S₂₄ : St h₀ L m ([(bk, lob [.ref cl, .int T tt, .int (x.length - T) tu] 0)] ++ (pre ++ (la, lob (lvs ++ [.ref a]) (k1 + 1)) :: (lb, lob (bvs ++ [.ref bk]) (k2 + 1)) :: ((ads ++ [(cl, lob cvs n')]) ++ rest))) h₂₄).perm (perm_ads _ _ _ _ _)
end
theorem shaped_norm (ns : List Int) (b : Int) : SeqAt.shaped (.tuple [.tuple (ns.map .int), .int b]) = true := by
  simp [SeqAt.shaped, PyData.canLay0, PyData.canLayAll0, PyData.depth, PyData.depthAll, ke_canLayAll0, ke_depthAll]
theorem shaped_book (ns : List Int) (b c : Int) : SeqAt.shaped (.list [.list (ns.map .int), .int b, .int c]) = true := by
  simp [SeqAt.shaped, PyData.canLay0, PyData.canLayAll0, PyData.depth, PyData.depthAll, ke_canLayAll0, ke_depthAll]
theorem eqv_norm (ns ms : List Int) (b c : Int) : PyData.eqv (.tuple [.tuple (ns.map .int), .int b]) (.tuple [.tuple (ms.map .int), .int c]) = (decide (ns = ms) && b == c) := by
  simp [PyData.eqv, PyData.eqvAll, ked_eqvAll]
theorem eqv_book (ns ms : List Int) (b c d e : Int) : PyData.eqv (.list [.list (ns.map .int), .int b, .int d]) (.list [.list (ms.map .int), .int c, .int e]) = (decide (ns = ms) && (b == c && d == e)) := by
  simp [PyData.eqv, PyData.eqvAll, ked_eqvAll]
theorem reads_norm {h : Heap} {tn tc : Addr} {vs : List Value} {cnt : List Int} {b : Int} {u : Tok} (h1 : h.get? tn = some (tob [.ref tc, .int b u])) (h2 : h.get? tc = some (tob vs)) (I : IntsAre vs cnt) :
    ∃ as, Reads h (.ref tn) (.tuple [.tuple (cnt.map .int), .int b]) as :=
  ⟨_, .tuple h1 rfl rfl (.cons (.tuple h2 rfl rfl (I.reads h)) (.cons (.int _ _) .nil))⟩
theorem reads_book {h : Heap} {bk cl : Addr} {vs : List Value} {c : List Int} {T B : Int} {u v : Tok} {n : Nat} (h1 : h.get? bk = some (lob [.ref cl, .int T u, .int B v] 0)) (h2 : h.get? cl = some (lob vs n)) (I : IntsAre vs c) :
    ∃ as, Reads h (.ref bk) (.list [.list (c.map .int), .int T, .int B]) as :=
  ⟨_, .list h1 rfl rfl (.cons (.list h2 rfl rfl (I.reads h)) (.cons (.int _ _) (.cons (.int _ _) .nil)))⟩
section
variable {prog : Program} {w : World} {A : Around} {E : Value → Shared → Prop} {h₀ h : Heap} {L : Addr} {m : Str → Option Value} {os : List (Addr × Obj)} {gs : Array GenState} {dr : Drawn} {t : Nat} {o : OsState} {Q : Value → Shared → Prop}
theorem book_eq {b1 b2 c1 c2 : Addr} {v1 v2 : List Value} {cc1 cc2 : List Int} {T1 T2 B1 B2 : Int} {u1 u2 u3 u4 : Tok} {n1 n2 : Nat} (S : St h₀ L m os h) (m1 : (b1, lob [.ref c1, .int T1 u1, .int B1 u2] 0) ∈ os) (l1 : (c1, lob v1 n1) ∈ os) (I1 : IntsAre v1 cc1)
    (m2 : (b2, lob [.ref c2, .int T2 u3, .int B2 u4] 0) ∈ os) (l2 : (c2, lob v2 n2) ∈ os) (I2 : IntsAre v2 cc2) (hu : A.units + 64 < cLine) (q : Q (.bool (decide (cc1 = cc2) && (T1 == T2 && B1 == B2))) ⟨h, gs, dr, t, o⟩) :
    wpAny (model prog w) A (compareOp .Eq (.ref b1) (.ref b2)) Q E ⟨h, gs, dr, t, o⟩ := by
  obtain ⟨as, ra⟩ := reads_book (S.mem m1) (S.mem l1) I1
  obtain ⟨bs, rb⟩ := reads_book (S.mem m2) (S.mem l2) I2
  exact eq_dataH (s := ⟨h, gs, dr, t, o⟩) ra rb (shaped_book _ _ _) (shaped_book _ _ _) hu (by rw [eqv_book]; exact q)
theorem cl_eq {c1 c2 : Addr} {v1 v2 : List Value} {cc1 cc2 : List Int} {n1 n2 : Nat} (S : St h₀ L m os h) (l1 : (c1, lob v1 n1) ∈ os) (I1 : IntsAre v1 cc1) (l2 : (c2, lob v2 n2) ∈ os) (I2 : IntsAre v2 cc2) (hu : A.units + 64 < cLine) (q : Q (.bool (decide (cc1 = cc2))) ⟨h, gs, dr, t, o⟩) :
    wpAny (model prog w) A (compareOp .Eq (.ref c1) (.ref c2)) Q E ⟨h, gs, dr, t, o⟩ :=
  ke_eq_ints (s := ⟨h, gs, dr, t, o⟩) (isL S l1) (isL S l2) I1 I2 hu q
theorem eqM {x : Addr} {n nt b : Int} {cnt : List Int} {pl : Sem Bool} {Q : Value × List Value → Shared → Prop} (C : Cx w h₀) (S : St h₀ L m os h) (W : WsAt os x n nt cnt b) (q : Q (.ref 59, [.ref x]) ⟨h, gs, dr, t, o⟩) :
    wpAny (model prog w) A (getMethod (.ref x) (Str.ofString "equal") pl) Q E ⟨h, gs, dr, t, o⟩ := by
  obtain ⟨⟨dx, es, k, tn, tc, vs, t1, t2, t3, a1, a2, a3, a4, a5, a6, a7, a8, a9⟩⟩ := W
  exact method_inst (s := ⟨h, gs, dr, t, o⟩) (f := 59) S.F C.X (InstAt.of_news S.N a1 a2) rfl rfl rfl a6 q
theorem eq_call {x1 x2 : Addr} {p1 p2 p3 p4 b1 b2 : Int} {k1 k2 : List Int} (C : Cx w h₀) (S : St h₀ L m os h) (W1 : WsAt os x1 p1 p2 k1 b1) (W2 : WsAt os x2 p3 p4 k2 b2) (hroom : A.depth < recursionLimit) (hu : A.units + 80 < cLine)
    (q : ∀ h' t', St h₀ L m os h' → Q (.bool (decide (k1 = k2) && b1 == b2)) ⟨h', gs, dr, t', o⟩) : wpAny (model prog w) A (call (.ref 59) [.ref x1, .ref x2]) Q E ⟨h, gs, dr, t, o⟩ := by
  obtain ⟨⟨dx, es, k, tn, tc, vs, t1, t2, t3, a1, a2, a3, a4, a5, a6, a7, a8, a9⟩⟩ := W1
  obtain ⟨⟨dx', es', k', tn', tc', vs', t1', t2', t3', a1', a2', a3', a4', a5', a6', a7', a8', a9'⟩⟩ := W2
  have C' := C.keeps S.F.keep
  refine call_fn (s := ⟨h, gs, dr, t, o⟩) (binds := [(Str.ofString "self", .ref x1), (Str.ofString "other", .ref x2)]) C' rfl rfl hroom rfl rfl (fun h₁ t S₁ => ?_)
  have I1 : InstAt h₁ x1 (instObj 83 dx) 83 (some (dictOf es k)) := ⟨S₁.F.keep _ _ (S.mem a1), rfl, rfl, S₁.F.keep _ _ (S.mem a2)⟩
  have I2 : InstAt h₁ x2 (instObj 83 dx') 83 (some (dictOf es' k')) := ⟨S₁.F.keep _ _ (S.mem a1'), rfl, rfl, S₁.F.keep _ _ (S.mem a2')⟩
  obtain ⟨as, ra⟩ := reads_norm (S₁.F.keep _ _ (S.mem a7)) (S₁.F.keep _ _ (S.mem a8)) a9
  obtain ⟨bs, rb⟩ := reads_norm (S₁.F.keep _ _ (S.mem a7')) (S₁.F.keep _ _ (S.mem a8')) a9'
  with_reducible refine wpAny_execs_cons ?_
  with_reducible refine wpAny_Return_some ?_
  (with_reducible refine wpAny_Compare1 ?_ ?ka); (case ka => with_unfolding_all rfl)
  (with_reducible refine Attribute_any_ ?_ ?ka); (case ka => with_unfolding_all rfl)
  (with_reducible refine' rd ?ka ?kb ?_ ?kc ?kd ?ke); (case ka => with_reducible assumption); (case kb => walk_at "look"); (case kc => rfl); (case kd => rfl); (case ke => decide)
  refine get_own (K := KP w) (attr := none) S₁.F C'.X I1 rfl rfl rfl rfl a5 rfl ?_
  (with_reducible refine Attribute_any_ ?_ ?ka); (case ka => with_unfolding_all rfl)
  (with_reducible refine' rd ?ka ?kb ?_ ?kc ?kd ?ke); (case ka => with_reducible assumption); (case kb => walk_at "look"); (case kc => rfl); (case kd => rfl); (case ke => decide)
  refine get_own (K := KP w) (attr := none) S₁.F C'.X I2 rfl rfl rfl rfl a5' rfl ?_
  refine eq_dataH ra rb (shaped_norm _ _) (shaped_norm _ _) ?_ ?_
  · show A.units + 3 + 64 < cLine
    omega
  rw [eqv_norm]
  exact q _ _ (S.grow S₁.F.keep)
end
theorem St.nilr {h₀ h : Heap} {L : Addr} {m : Str → Option Value} {p : Addr × Obj} {os : List (Addr × Obj)} (S : St h₀ L m (p :: os) h) : St h₀ L m (p :: (os ++ [])) h := by rw [List.append_nil]; exact S
noncomputable def cM (x : Str) : List Int := (countsM x).getD []
noncomputable def wM (x : Str) : Nat × Nat × Nat × List Int := wsM ((leadRaw x).getD ⟨#[]⟩)
noncomputable def TM (x : Str) : Int := Txt.count x (Str.ofString "\t")
structure WordOK (x : Str) : Prop where
  len : x.length ≤ 100
  c : countsM x = some (cM x)
  l : ∃ raw, leadRaw x = some raw
  t : 0 ≤ TM x ∧ TM x ≤ 100
  p : ptsOk (TM x) (wM x).2.2.2 (cM x)
noncomputable def PairOK (x y : Str) : Prop := (decide ((wM x).2.2.2 = (wM y).2.2.2) && (((wM x).1 : Int) == ((wM y).1 : Int))) = (decide (cM x = cM y) && (TM x == TM y && ((x.length : Int) - TM x == (y.length : Int) - TM y)))
noncomputable def BookAt (os : List (Addr × Obj)) (a bk : Addr) (x : Str) : Prop := ∃ (n nt : Int) (cl : Addr) (cvs : List Value) (n' : Nat) (t1 t2 : Tok), WsAt os a n nt (wM x).2.2.2 (wM x).1 ∧ (bk, lob [.ref cl, .int (TM x) t1, .int (x.length - TM x) t2] 0) ∈ os ∧ (cl, lob cvs n') ∈ os ∧ IntsAre cvs (cM x)
theorem BookAt.mono {os os' : List (Addr × Obj)} {a bk : Addr} {x : Str} (B : BookAt os a bk x) (h : ∀ p ∈ os, p ∈ os') : BookAt os' a bk x := by
  obtain ⟨n, nt, cl, cvs, n', t1, t2, h1, h2, h3, h4⟩ := B
  exact ⟨n, nt, cl, cvs, n', t1, t2, h1.mono h, h _ h2, h _ h3, h4⟩
section
variable {prog : Program} {w : World} {A : Around} {E : Value → Shared → Prop} {h₀ h : Heap} {L fa : Addr} {cd : Value} {m : Str → Option Value} {gs : Array GenState} {dr : Drawn} {t : Nat} {o : OsState} {Q : Flow → Shared → Prop}
theorem lawF {ws : List Str} {la lb : Addr} {lvs bvs : List Value} {k1 k2 : Nat} {os : List (Addr × Obj)} (C : Cx w h₀) (hroom : A.depth + 9 < recursionLimit) (hu : A.units + 100 < cLine) (hh : A.handled = none)
    (hp : ∀ x ∈ ws, ∀ y ∈ ws, PairOK x y) (he : ∀ x y, ws[0]? = some x → ws[1]? = some y → cM x = cM y)
    (hB : ∀ j, j < 3 → ∃ x a bk, ws[j]? = some x ∧ lvs[j]? = some (.ref a) ∧ bvs[j]? = some (.ref bk) ∧ BookAt os a bk x)
    (S : St h₀ L m os h) (ml : (la, lob lvs k1) ∈ os) (mb : (lb, lob bvs k2) ∈ os) (hz1 : lvs.length ≤ 100) (hz2 : bvs.length ≤ 100)
    (m1 : m (Str.ofString "leads") = some (.ref la)) (m2 : m (Str.ofString "books") = some (.ref lb)) 
    (q : ∀ h' t' m', Fr h₀ L h' m' → Q (.ret (.bool true)) ⟨h', gs, dr, t', o⟩) :
    wpAny (model prog w) A (execs (lawB.drop 10) (lawE L fa cd)) Q E ⟨h, gs, dr, t, o⟩ := by
  have hl1 : lvs.length ≤ sizeLine := by rw [sizeLine_eq]; omega
  have hl2 : bvs.length ≤ sizeLine := by rw [sizeLine_eq]; omega
  show wpAny _ _ (execs (_ :: _) _) _ _ _
  with_reducible refine wpAny_execs_cons ?_
  (with_reducible refine' wpAny_For ?_ ?ka); (case ka => intro _; rfl)
  (with_reducible refine Call_ ?_ ?ka); (case ka => rfl)
  (with_reducible refine' rdB ?ka ?kb ?kc ?kd ?_ ?ke ?kf ?kg ?kh); (case ka => with_reducible assumption); (case kb => with_reducible assumption); (case kc => first | with_reducible exact gb0 _ | with_reducible exact gb1 _ | with_reducible exact gb2 _ | with_reducible exact gb3 _ | with_reducible exact gb4 _); (case kd => first | exact boot_len | exact boot_range | exact boot_enumerate | exact boot_tuple | exact boot_sum); (case ke => decide); (case kf => rfl); (case kg => rfl); (case kh => decide)
  (with_reducible refine callWith_type1 ?_ ?ka ?kb); (case ka => rfl); (case kb => rfl)
  (with_reducible refine spliced_more ?_ ?ka); (case ka => rfl)
  (with_reducible refine cInt ?_); intro _ _
  with_reducible refine spliced_none ?_
  refine' rng1 ?S (by decide) (by decide) (fun I oI h₁ t₁ S₁ wt => ?_)
  case S => with_reducible assumption
  have S₁' : St h₀ L m ((I, oI) :: (os ++ [])) h₁ := (List.append_nil os).symm ▸ S₁
  refine for_loop (con := os) (os := []) (Walks.range (by exact hh) I 0 1 3) (fun i h wt => ⟨_, wt⟩) (fun b hb => .inl (List.mem_singleton.mp hb))
    (fun i m os => os = [] ∧ m (Str.ofString "leads") = some (.ref la) ∧ m (Str.ofString "books") = some (.ref lb))
    ?_ ?_ S₁' wt ⟨rfl, m1, m2⟩
  · rintro i m os₁ v oI h t hi ⟨tk, rfl⟩ ⟨rfl, m1, m2⟩ S
    have ei : (0 : Int) + (i : Int) * 1 = i := by omega
    rw [ei, List.append_nil] at S
    obtain ⟨x, a, bk, hx, hxa, hxb, BA⟩ := hB i hi
    clear S₁'
    with_reducible refine wpAny_execs_cons ?_
    (with_reducible refine' wpAny_For ?_ ?ka); (case ka => intro _; rfl)
    (with_reducible refine Call_ ?_ ?ka); (case ka => rfl)
    (with_reducible refine' rdB ?ka ?kb ?kc ?kd ?_ ?ke ?kf ?kg ?kh); (case ka => with_reducible assumption); (case kb => with_reducible assumption); (case kc => first | with_reducible exact gb0 _ | with_reducible exact gb1 _ | with_reducible exact gb2 _ | with_reducible exact gb3 _ | with_reducible exact gb4 _); (case kd => first | exact boot_len | exact boot_range | exact boot_enumerate | exact boot_tuple | exact boot_sum); (case ke => decide); (case kf => rfl); (case kg => rfl); (case kh => decide)
    (with_reducible refine callWith_type1 ?_ ?ka ?kb); (case ka => rfl); (case kb => rfl)
    (with_reducible refine spliced_more ?_ ?ka); (case ka => rfl)
    (with_reducible refine cInt ?_); intro _ _
    with_reducible refine spliced_none ?_
    refine' rng1 ?S (by decide) (by decide) (fun I₂ oI₂ h₃ t₃ S₃ wt₂ => ?_)
    case S => with_reducible assumption
    have S₃' : St h₀ L _ ((I₂, oI₂) :: (((I, oI) :: os) ++ [])) h₃ := (List.append_nil ((I, oI) :: os)).symm ▸ S₃
    refine for_loop (con := (I, oI) :: os) (os := []) (Walks.range (by exact hh) I₂ 0 1 3) (fun i h wt => ⟨_, wt⟩) (fun b hb => .inl (List.mem_singleton.mp hb))
      (fun j m os => os = [] ∧ (∃ ti, m (Str.ofString "one") = some (.int i ti)) ∧ m (Str.ofString "leads") = some (.ref la) ∧ m (Str.ofString "books") = some (.ref lb))
      ?_ ?_ S₃' wt₂ ⟨rfl, ⟨_, by walk_at "look"⟩, by walk_at "look", by walk_at "look"⟩
    · rintro j m os₂ v oI₂ h t hj ⟨tj, rfl⟩ ⟨rfl, ⟨ti, n1⟩, n2, n3⟩ S₅
      have ej : (0 : Int) + (j : Int) * 1 = j := by omega
      rw [ej, List.append_nil] at S₅
      obtain ⟨y, a', bk', hy, hya, hyb, BA'⟩ := hB j hj
      obtain ⟨n, nt, cl, cvs, n', t1, t2, W, b1, b2, b3⟩ := BA.mono (os' := (I₂, oI₂) :: (I, oI) :: os) (fun p hp => .tail _ (.tail _ hp))
      obtain ⟨n₂, nt₂, cl₂, cvs₂, n₂', t1₂, t2₂, W', b1', b2', b3'⟩ := BA'.mono (os' := (I₂, oI₂) :: (I, oI) :: os) (fun p hp => .tail _ (.tail _ hp))
      have hP := hp x (List.mem_of_getElem? hx) y (List.mem_of_getElem? hy)
      clear S₃' S
      with_reducible refine wpAny_execs_cons ?_
      with_reducible refine wpAny_If ?_
      (with_reducible refine wpAny_isTrue_Compare1 ?_ ?ka); (case ka => with_unfolding_all rfl)
      (with_reducible refine' MethodCall_ ?_ ?ka); (case ka => rfl)
      with_reducible refine Subscript_ ?_
      (with_reducible refine' rd ?ka ?kb ?_ ?kc ?kd ?ke); (case ka => with_reducible assumption); (case kb => walk_at "look"); (case kc => rfl); (case kd => rfl); (case ke => decide)
      (with_reducible refine' rd ?ka ?kb ?_ ?kc ?kd ?ke); (case ka => with_reducible assumption); (case kb => walk_at "look"); (case kc => rfl); (case kd => rfl); (case ke => decide)
      refine itemL S₅ (.tail _ (.tail _ ml)) (by omega) hl1 (by simpa using hxa) ?_
      refine eqM C S₅ W ?_
      show wpAny _ _ (callWith _ (.ref 59) [.ref a] _ _) _ _ _
      refine callWith_K (first := [.ref a]) C.X rfl ?_ rfl rfl
      (with_reducible refine spliced_more ?_ ?ka); (case ka => rfl)
      with_reducible refine Subscript_ ?_
      (with_reducible refine' rd ?ka ?kb ?_ ?kc ?kd ?ke); (case ka => with_reducible assumption); (case kb => walk_at "look"); (case kc => rfl); (case kd => rfl); (case ke => decide)
      (with_reducible refine' rd ?ka ?kb ?_ ?kc ?kd ?ke); (case ka => with_reducible assumption); (case kb => walk_at "look"); (case kc => rfl); (case kd => rfl); (case ke => decide)
      refine itemL S₅ (.tail _ (.tail _ ml)) (by omega) hl1 (by simpa using hya) ?_
      with_reducible refine spliced_none ?_
      (with_reducible refine' And.intro (inK ?ka ?kb) ?_); (case ka => with_reducible assumption); (case kb => with_reducible assumption)
      show wpAny _ _ (call (.ref 59) [.ref a, .ref a']) _ _ _
      refine eq_call C S₅ W W' (by omega) (by omega) (fun h₆ t₆ S₆ => ?_)
      clear S₅
      (with_reducible refine wpAny_Compare1 ?_ ?ka); (case ka => with_unfolding_all rfl)
      with_reducible refine Subscript_ ?_
      (with_reducible refine' rd ?ka ?kb ?_ ?kc ?kd ?ke); (case ka => with_reducible assumption); (case kb => walk_at "look"); (case kc => rfl); (case kd => rfl); (case ke => decide)
      (with_reducible refine' rd ?ka ?kb ?_ ?kc ?kd ?ke); (case ka => with_reducible assumption); (case kb => walk_at "look"); (case kc => rfl); (case kd => rfl); (case ke => decide)
      refine itemL S₆ (.tail _ (.tail _ mb)) (by omega) hl2 (by simpa using hxb) ?_
      with_reducible refine Subscript_ ?_
      (with_reducible refine' rd ?ka ?kb ?_ ?kc ?kd ?ke); (case ka => with_reducible assumption); (case kb => walk_at "look"); (case kc => rfl); (case kd => rfl); (case ke => decide)
      (with_reducible refine' rd ?ka ?kb ?_ ?kc ?kd ?ke); (case ka => with_reducible assumption); (case kb => walk_at "look"); (case kc => rfl); (case kd => rfl); (case ke => decide)
      refine itemL S₆ (.tail _ (.tail _ mb)) (by omega) hl2 (by simpa using hyb) ?_
      refine book_eq S₆ b1 b2 b3 b1' b2' b3' (by omega) ?_
      refine isnot_bool ?_
      with_reducible refine trB ?_
      unfold PairOK at hP
      rw [hP, if_neg (by simp)]
      with_reducible refine wpAny_execs_nil ?_
      with_reducible refine wpAny_execs_nil ?_
      exact ⟨_, [], _, _, rfl, S₆.nilr, rfl, ⟨_, by walk_at "look"⟩, by walk_at "look", by walk_at "look"⟩
    · rintro m os₂ h t ⟨rfl, ⟨ti, n1⟩, n2, n3⟩ S₅
      rw [List.append_nil] at S₅
      with_reducible refine wpAny_execs_nil ?_
      exact ⟨_, [], _, _, rfl, (List.append_nil os).symm ▸ S₅, rfl, n2, n3⟩
  · rintro m os₁ h t ⟨rfl, m1, m2⟩ S
    rw [List.append_nil] at S
    obtain ⟨x, a, bk, hx, hxa, hxb, BA⟩ := hB 0 (by decide)
    obtain ⟨y, a', bk', hy, hya, hyb, BA'⟩ := hB 1 (by decide)
    obtain ⟨n, nt, cl, cvs, n', t1, t2, W, b1, b2, b3⟩ := BA
    obtain ⟨n₂, nt₂, cl₂, cvs₂, n₂', t1₂, t2₂, W', b1', b2', b3'⟩ := BA'
    have he' := he x y hx hy
    clear S₁' S₁
    with_reducible refine wpAny_execs_cons ?_
    with_reducible refine wpAny_Return_some ?_
    (with_reducible refine wpAny_Compare1 ?_ ?ka); (case ka => with_unfolding_all rfl)
    with_reducible refine Subscript_ ?_
    with_reducible refine Subscript_ ?_
    (with_reducible refine' rd ?ka ?kb ?_ ?kc ?kd ?ke); (case ka => with_reducible assumption); (case kb => walk_at "look"); (case kc => rfl); (case kd => rfl); (case ke => decide)
    (with_reducible refine cInt ?_); intro _ _
    refine itemL S mb (by decide) hl2 (by simpa using hxb) ?_
    (with_reducible refine cInt ?_); intro _ _
    refine itemL S b1 (by decide) (by rw [sizeLine_eq]; simp) rfl ?_
    with_reducible refine Subscript_ ?_
    with_reducible refine Subscript_ ?_
    (with_reducible refine' rd ?ka ?kb ?_ ?kc ?kd ?ke); (case ka => with_reducible assumption); (case kb => walk_at "look"); (case kc => rfl); (case kd => rfl); (case ke => decide)
    (with_reducible refine cInt ?_); intro _ _
    refine itemL S mb (by decide) hl2 (by simpa using hyb) ?_
    (with_reducible refine cInt ?_); intro _ _
    refine itemL S b1' (by decide) (by rw [sizeLine_eq]; simp) rfl ?_
    refine cl_eq S b2 b3 b2' b3' (by omega) ?_
    rw [he', decide_eq_true rfl]
    exact q _ _ _ S.F
end
section
variable {prog : Program} {w : World} {A : Around} {E : Value → Shared → Prop} {h₀ h : Heap} {L fa : Addr} {cd : Value} {m : Str → Option Value} {gs : Array GenState} {dr : Drawn} {t : Nat} {o : OsState} {Q : Flow → Shared → Prop}
theorem lawD {x1 x2 x3 : Str} {u1 u2 u3 : Tok} (C : Cx w h₀) (hroom : A.depth + 9 < recursionLimit) (hu : A.units + 100 < cLine) (hh : A.handled = none)
    (hw : ∀ x ∈ [x1, x2, x3], WordOK x) (hp : ∀ x ∈ [x1, x2, x3], ∀ y ∈ [x1, x2, x3], PairOK x y) (he : cM x1 = cM x2)
    (S : St h₀ L m [] h) (m1 : m (Str.ofString "first") = some (.str x1 u1)) (m2 : m (Str.ofString "twin") = some (.str x2 u2)) (m3 : m (Str.ofString "second") = some (.str x3 u3))
    (q : ∀ h' t' m', Fr h₀ L h' m' → Q (.ret (.bool true)) ⟨h', gs, dr, t', o⟩) :
    wpAny (model prog w) A (execs (lawB.drop 7) (lawE L fa cd)) Q E ⟨h, gs, dr, t, o⟩ := by
  show wpAny _ _ (execs (_ :: _) _) _ _ _
  with_reducible refine wpAny_execs_cons ?_
  (with_reducible refine wpAny_Assign_Name ?_ ?ka); (case ka => rfl)
  with_reducible refine List_ ?_
  with_reducible refine spliced_none ?_
  (with_reducible refine' newL ?ka ?_ ?kb); (case ka => with_reducible assumption); (case kb => walk_at "sz"); intro _ _ _ _
  (with_reducible refine' sto ?ka ?_ ?kb ?kc); (case ka => with_reducible assumption); (case kb => rfl); (case kc => rfl); intro _ _ _
  with_reducible refine wpAny_execs_cons ?_
  (with_reducible refine wpAny_Assign_Name ?_ ?ka); (case ka => rfl)
  with_reducible refine List_ ?_
  with_reducible refine spliced_none ?_
  (with_reducible refine' newL ?ka ?_ ?kb); (case ka => with_reducible assumption); (case kb => walk_at "sz"); intro _ _ _ _
  (with_reducible refine' sto ?ka ?_ ?kb ?kc); (case ka => with_reducible assumption); (case kb => rfl); (case kc => rfl); intro _ _ _
  with_reducible refine wpAny_execs_cons ?_
  (with_reducible refine' wpAny_For ?_ ?ka); (case ka => intro _; rfl)
  with_reducible refine List_ ?_
  (with_reducible refine spliced_more ?_ ?ka); (case ka => rfl)
  (with_reducible refine' rd ?ka ?kb ?_ ?kc ?kd ?ke); (case ka => with_reducible assumption); (case kb => walk_at "look"); (case kc => rfl); (case kd => rfl); (case ke => decide)
  (with_reducible refine spliced_more ?_ ?ka); (case ka => rfl)
  (with_reducible refine' rd ?ka ?kb ?_ ?kc ?kd ?ke); (case ka => with_reducible assumption); (case kb => walk_at "look"); (case kc => rfl); (case kd => rfl); (case ke => decide)
  (with_reducible refine spliced_more ?_ ?ka); (case ka => rfl)
  (with_reducible refine' rd ?ka ?kb ?_ ?kc ?kd ?ke); (case ka => with_reducible assumption); (case kb => walk_at "look"); (case kc => rfl); (case kd => rfl); (case ke => decide)
  with_reducible refine spliced_none ?_
  (with_reducible refine' newL ?ka ?_ ?kb); (case ka => with_reducible assumption); (case kb => walk_at "sz"); intro _ _ _ _
  (with_reducible refine' itL ?ka ?kb ?_); (case ka => with_reducible assumption); (case kb => walk_at "mem"); intro _ _ _ _ _ _
  rename_i _ la _ _ _ _ _ _ lb _ _ _ _ _ _ lw _ _ I oI h₁ S₁ wt ne
  have S₁' := S₁.perm (((List.Perm.swap _ _ _).cons _).cons _)
  refine for_loop (con := [(lw, lob [Value.str x1 u1, Value.str x2 u2, Value.str x3 u3] 0)]) (os := [(la, lob [] 0), (lb, lob [] 0)]) (Walks.list (by exact hh) I lw ne _) (fun i h wt => let ⟨o, ho, _⟩ := wt.1; ⟨o, ho⟩) ?_
    (fun i m os => ∃ lvs bvs k1 k2 rest, os = (la, lob lvs k1) :: (lb, lob bvs k2) :: rest ∧ lvs.length = i ∧ bvs.length = i ∧
      (∀ j, j < i → ∃ x a bk, [x1, x2, x3][j]? = some x ∧ lvs[j]? = some (.ref a) ∧ bvs[j]? = some (.ref bk) ∧ BookAt rest a bk x) ∧ m (Str.ofString "leads") = some (.ref la) ∧ m (Str.ofString "books") = some (.ref lb))
    ?_ ?_ S₁' wt ⟨[], [], 0, 0, [], rfl, rfl, rfl, fun j hj => absurd hj (Nat.not_lt_zero _), by walk_at "look", by walk_at "look"⟩
  · intro b hb
    rcases List.mem_cons.mp hb with rfl | hb
    · exact .inl rfl
    · rw [List.mem_singleton.mp hb]; exact .inr (.inr (by simp))
  · rintro i m os v oI h t hi pv ⟨lvs, bvs, k1, k2, rest, rfl, hl1, hl2, hB, n1, n2⟩ S
    have hi3 : i < 3 := hi
    obtain ⟨x, tx, rfl, hx⟩ : ∃ x tx, v = .str x tx ∧ [x1, x2, x3][i]? = some x := by
      rcases i with _ | _ | _ | i
      · exact ⟨x1, u1, (Option.some.inj pv).symm, rfl⟩
      · exact ⟨x2, u2, (Option.some.inj pv).symm, rfl⟩
      · exact ⟨x3, u3, (Option.some.inj pv).symm, rfl⟩
      · omega
    have OK := hw x (List.mem_of_getElem? hx)
    obtain ⟨raw, hraw⟩ := OK.l
    have hwm : wsM raw = wM x := by unfold wM; rw [hraw]; rfl
    clear S₁ S₁'
    refine lawB_turn (pre := [(I, oI), (lw, lob [Value.str x1 u1, Value.str x2 u2, Value.str x3 u3] 0)]) (T := TM x) (c := cM x) (raw := raw) (b := (wM x).1) (n := (wM x).2.1) (nt := (wM x).2.2.1) (cnt := (wM x).2.2.2) (lvs := lvs) (bvs := bvs) (rest := rest) (x := x) (tx := tx) (k1 := k1) (k2 := k2) (la := la) (lb := lb)
      C hroom (by omega) hh OK.c hraw hwm OK.len rfl OK.t OK.p S (by omega) (by omega) (by walk_at "look") (by walk_at "look") (by walk_at "look") ?_
    intro h' t' m' ads a bk cl cvs n' t1 t2 S' W e1 e2 I1 n1' n2'
    refine ⟨m', (la, lob (lvs ++ [Value.ref a]) (k1 + 1)) :: (lb, lob (bvs ++ [Value.ref bk]) (k2 + 1)) :: (ads ++ rest), h', t', rfl, S', lvs ++ [Value.ref a], bvs ++ [Value.ref bk], k1 + 1, k2 + 1, ads ++ rest, rfl, by simp [hl1], by simp [hl2], ?_, n1', n2'⟩
    intro j hj
    rcases Nat.lt_succ_iff_lt_or_eq.mp hj with hj | rfl
    · obtain ⟨x', a', bk', hx', ha', hb', B⟩ := hB j hj
      exact ⟨x', a', bk', hx', by rw [List.getElem?_append_left (by omega)]; exact ha', by rw [List.getElem?_append_left (by omega)]; exact hb', B.mono fun p hp => List.mem_append_right _ hp⟩
    · refine ⟨x, a, bk, hx, ?_, ?_, _, _, cl, cvs, n', t1, t2, W.mono (fun p hp => List.mem_append_left _ hp), List.mem_append_left _ e1, List.mem_append_left _ e2, I1⟩
      · rw [← hl1]; simp
      · rw [← hl2]; simp
  · rintro m os h t ⟨lvs, bvs, k1, k2, rest, rfl, hl1, hl2, hB, n1, n2⟩ S
    have hl1' : lvs.length = 3 := hl1
    have hl2' : bvs.length = 3 := hl2
    refine lawF (ws := [x1, x2, x3]) (os := (lw, lob [Value.str x1 u1, Value.str x2 u2, Value.str x3 u3] 0) :: (la, lob lvs k1) :: (lb, lob bvs k2) :: rest) C hroom hu hh hp (fun x y hx hy => ?_) (fun j hj => ?_) S (.tail _ (.head _)) (.tail _ (.tail _ (.head _))) (by omega) (by omega) n1 n2 q
    · cases hx; cases hy; exact he
    · obtain ⟨x, a, bk, hx, ha, hb, B⟩ := hB j hj
      exact ⟨x, a, bk, hx, ha, hb, B.mono fun p hp => .tail _ (.tail _ (.tail _ hp))⟩
end
theorem cal_hh (e : Env) : (callerA.deeper e).handled = none := rfl
theorem cal_room (e : Env) : (callerA.deeper e).depth + 9 < recursionLimit := by
  show callerA.depth + 1 + 9 < recursionLimit
  decide +kernel
theorem cal_units (e : Env) : (callerA.deeper e).units + 100 < cLine := by
  show callerA.units + 3 + 100 < cLine
  decide +kernel
noncomputable def PlainOK (ns : List Int) : Prop := (∀ x ∈ [firstM ns, twinW ns, secondM ns], WordOK x) ∧ (∀ x ∈ [firstM ns, twinW ns, secondM ns], ∀ y ∈ [firstM ns, twinW ns, secondM ns], PairOK x y) ∧ cM (firstM ns) = cM (twinW ns)
theorem lawMain {prog : Program} {w : World} {e : Env} {E : Value → Shared → Prop} {s s' : Shared} {h : Heap} {L fa : Addr} {cd : Value} {m : Str → Option Value} {Q : Flow → Shared → Prop} {a : Addr} {vs : List Value} {ns : List Int}
    (X : (KP w).In s.heap) {p : Program} {loose : List Str} {mean : ExcName → Option Value} {mg mb : Str → Option Value} (T : Top p loose mean mg mb s.heap)
    (hl : s.heap.IsList a vs.toArray) (hI : IntsAre vs ns) (hn : ¬ (63 : Int) < ns.length) (F : Fr s.heap L h m) (hm : m (Str.ofString "script") = some (.ref a)) (hs : s'.heap = h) (plain : ∀ ns, PlainOK ns)
    (q : ∀ h' t' m', Fr s.heap L h' m' → Q (.ret (.bool true)) ⟨h', s'.gens, s'.drawn, t', s'.os⟩) :
    wpAny (model prog w) (callerA.deeper e) (execs lawB (lawE L fa cd)) Q E s' := by
  obtain ⟨h'', gs, dr, t, o⟩ := s'
  have hs' : h'' = h := hs
  subst hs'
  obtain ⟨hw, hp, he⟩ := plain ns
  have C : Cx w s.heap := ⟨X, ⟨_, T.g⟩, ⟨_, T.b, T.builtins⟩, T.nolimit⟩
  refine lawA C (cal_room e) (cal_hh e) hl hI (by omega) ⟨F, News.nil, List.nodup_nil⟩ hm (fun h' t' m' t1 t2 t3 S' m1 m2 m3 => ?_)
  exact lawD C (cal_room e) (cal_units e) (cal_hh e) hw hp he S' m1 m2 m3 q
theorem law0 (plain : ∀ ns, PlainOK ns) : PySem.Challenge.rw_rl0080_01.Holds := by
  refine hd ?_
  k_go0
  rename_i ns _ _ _ _ _ _ _ a vs _ hL _ _ _ hI _ hn _ _ _ h₁ F N0
  have T := ‹Top _ _ _ _ _ _›
  have X := ‹(hd.heap_39 _).In _›
  have hg := ‹Shared.gens _ = #[]›
  show wpAny _ _ (execs lawB (lawE _ _ _)) _ _ _
  exact lawMain X T hL hI hn F rfl rfl plain (fun h' t' m' F' => by
    refine goodW_bool F' hg (raisesW_false ?_) ?_
    · wrow_none_raised
    · wrow_post)
noncomputable def ltr (t : Bool) : Nat := match t with | true => 9 | false => 32
noncomputable def strB (b : List Bool) : Str := ⟨(b.map ltr).toArray⟩
theorem strB_list (b : List Bool) : (strB b).cps.toList = b.map ltr := by simp [strB]
theorem strB_length (b : List Bool) : (strB b).length = b.length := by
  show (b.map ltr).toArray.size = b.length
  simp
theorem strB_app (a b : List Bool) : strB a ++ strB b = strB (a ++ b) := by
  show Str.mk (_ ++ _) = Str.mk _
  refine congrArg Str.mk ?_
  apply Array.ext'
  simp [strB]
theorem slF (b : List Bool) (i : Nat) (h : i ≤ b.length) : Txt.slice (strB b) (some (i : Int)) none = strB (b.drop i) := by
  rw [slice_from_eq (x := strB b) (i := (i : Int)) (by omega) (by rw [strB_length]; omega) rfl]
  refine congrArg Str.mk ?_
  apply Array.ext'
  rw [strB_list, strB_length]
  have e : ((b.length : Int) - (i : Int)).toNat = b.length - i := by omega
  rw [e, Int.toNat_natCast, List.take_of_length_le (by simp)]
  simp
theorem slT (b : List Bool) (j : Nat) (h : j ≤ b.length) : Txt.slice (strB b) none (some (j : Int)) = strB (b.take j) := by
  rw [beq_iff_eq.mp (slice_closes_toL (x := strB b) (j := (j : Int)) (by omega) (by rw [strB_length]; omega))]
  refine congrArg Str.mk ?_
  apply Array.ext'
  rw [strB_list]
  have e : ((j : Int) - 0).toNat = j := by omega
  rw [e]
  simp
theorem slFT (b : List Bool) (i j : Nat) (h1 : i ≤ j) (h2 : j ≤ b.length) : Txt.slice (strB b) (some (i : Int)) (some (j : Int)) = strB ((b.drop i).take (j - i)) := by
  rw [beq_iff_eq.mp (slice_closesL (x := strB b) (i := (i : Int)) (j := (j : Int)) (by omega) (by omega) (by rw [strB_length]; omega))]
  refine congrArg Str.mk ?_
  apply Array.ext'
  rw [strB_list]
  have e : ((j : Int) - (i : Int)).toNat = j - i := by omega
  rw [e, Int.toNat_natCast]
  simp
theorem sTab : Str.ofString "\t" = ⟨#[9]⟩ := by decide +kernel
theorem sBl : Str.ofString " " = ⟨#[32]⟩ := by decide +kernel
theorem sEm : Str.ofString "" = ⟨#[]⟩ := by decide +kernel
theorem sTB : Str.ofString "\t " = ⟨#[9, 32]⟩ := by decide +kernel
theorem sBT : Str.ofString " \t" = strB [false, true] := by decide +kernel
theorem cnt_B (b : List Bool) : Txt.count (strB b) (Str.ofString "\t") = ((b.filter id).length : Int) := by
  rw [sTab, count_cnt, strB_list]
  induction b with
  | nil => rfl
  | cons a b ih =>
    rw [List.map_cons, cnt_cons, ih]
    cases a
    · simp [ltr]
    · simp [ltr]; omega
/-- the first place of a text in another, from lo on -/
theorem occ_from (x y : Str) (lo hi : Nat) : (Builtin.Str.occurrences x y lo hi 1 = [] ∧ ∀ i, lo ≤ i → ¬ StrLaws.At x y hi i) ∨ ∃ i r, Builtin.Str.occurrences x y lo hi 1 = i :: r ∧ lo ≤ i ∧ StrLaws.At x y hi i ∧ ∀ k, lo ≤ k → k < i → ¬ StrLaws.At x y hi k := by
  have out : ∀ i, hi + 1 ≤ i → ¬ StrLaws.At x y hi i := fun i h q => by have := q.1; omega
  rcases StrLaws.occ_first x y hi 1 (Nat.le_refl 1) (List.range' lo (hi + 1 - lo)) lo (fun i h => (List.mem_range'_1.mp h).1) with ⟨h0, hn⟩ | ⟨pre, a, post, e, h0, ha, hn⟩
  · refine .inl ⟨by rw [StrLaws.occ_eq, h0], fun i hi' => ?_⟩
    rcases Nat.lt_or_ge i (hi + 1) with h | h
    · exact hn i (List.mem_range'_1.mpr ⟨hi', by omega⟩)
    · exact out i h
  · have hsp := List.range'_eq_append_iff.mp e
    obtain ⟨k, hk, e1, e2⟩ := hsp
    rw [Nat.mul_one] at e2
    have ea : a = lo + k := by
      have : (List.range' (lo + k) (hi + 1 - lo - k)).head? = some a := by rw [← e2]; rfl
      cases hz : hi + 1 - lo - k with
      | zero => rw [hz] at this; cases this
      | succ z => rw [hz, List.range'_succ] at this; exact (Option.some.inj this).symm
    refine .inr ⟨a, (Builtin.Str.occurrences x y lo hi 1).tail, ?_, by omega, ha, fun k' h1 h2 => hn k' (by rw [e1]; exact List.mem_range'_1.mpr ⟨h1, by omega⟩)⟩
    have : (Builtin.Str.occurrences x y lo hi 1).head? = some a := by
      rw [StrLaws.occ_eq, ← Array.getElem?_toList] at *
      simpa [List.head?_eq_getElem?] using h0
    cases hz : Builtin.Str.occurrences x y lo hi 1 with
    | nil => rw [hz] at this; cases this
    | cons b r => rw [hz] at this; cases this; rfl
theorem at_one (b : List Bool) (c i : Nat) : StrLaws.At (strB b) ⟨#[c]⟩ (strB b).length i ↔ (b.map ltr)[i]? = some c := by
  unfold StrLaws.At
  rw [← strB_list]
  exact StrLaws.subAt_one (strB b) c i
theorem at_nil (x : Str) (n i : Nat) : StrLaws.At x ⟨#[]⟩ n i ↔ i ≤ n := by
  unfold StrLaws.At
  rw [StrLaws.subAt_eq]
  simp [Str.length]
theorem at_two (b : List Bool) (i : Nat) : StrLaws.At (strB b) ⟨#[9, 32]⟩ (strB b).length i ↔ (b[i]? = some true ∧ b[i + 1]? = some false) := by
  unfold StrLaws.At
  rw [StrLaws.subAt_eq, strB_list, strB_length]
  have l2 : (⟨#[9, 32]⟩ : Str).length = 2 := rfl
  rw [l2]
  constructor
  · rintro ⟨h1, h2⟩
    have h1' : i + 1 < b.length := by omega
    rw [List.drop_eq_getElem_cons (by simp; omega), List.drop_eq_getElem_cons (by simp; omega)] at h2
    simp at h2
    rw [List.getElem?_eq_getElem (by omega), List.getElem?_eq_getElem h1']
    obtain ⟨h3, h4⟩ := h2
    constructor
    · cases hb : b[i] with
      | true => rfl
      | false => rw [hb] at h3; cases h3
    · cases hb : b[i + 1] with
      | false => rfl
      | true => rw [hb] at h4; cases h4
  · rintro ⟨h1, h2⟩
    obtain ⟨a1, b1⟩ := List.getElem?_eq_some_iff.mp h1
    obtain ⟨a2, b2⟩ := List.getElem?_eq_some_iff.mp h2
    refine ⟨by omega, ?_⟩
    rw [List.drop_eq_getElem_cons (by simp; omega), List.drop_eq_getElem_cons (by simp; omega)]
    simp [b1, b2, ltr]
noncomputable def hasTB : List Bool → Bool
  | [] => false
  | true :: r => r.any not
  | false :: r => hasTB r
noncomputable def movB : List Bool → List Bool
  | [] => []
  | true :: false :: r => false :: true :: r
  | a :: r => a :: movB r
noncomputable def barB : List Bool → List Bool
  | [] => []
  | true :: false :: r => r
  | a :: r => a :: barB r
theorem mov_at : ∀ (f : Nat) (b : List Bool), b[f]? = some true → b[f + 1]? = some false → (∀ k, k < f → ¬ (b[k]? = some true ∧ b[k + 1]? = some false)) →
    movB b = b.take f ++ ([false, true] ++ b.drop (f + 2)) ∧ barB b = b.take f ++ b.drop (f + 2)
  | 0, [], h, _, _ => by cases h
  | 0, [a], _, h, _ => by cases h
  | 0, a :: c :: r, h1, h2, _ => by
    have e1 : a = true := by simpa using h1
    have e2 : c = false := by simpa using h2
    subst e1; subst e2
    exact ⟨rfl, rfl⟩
  | f + 1, [], h, _, _ => by cases h
  | f + 1, [a], h, _, _ => by simp at h
  | f + 1, a :: c :: r, h1, h2, hn => by
    have hac : ¬ (a = true ∧ c = false) := fun q => hn 0 (Nat.zero_lt_succ _) ⟨by simp [q.1], by simp [q.2]⟩
    have ih := mov_at f (c :: r) (by simpa using h1) (by simpa using h2) (fun k hk q => hn (k + 1) (Nat.succ_lt_succ hk) (by simpa using q))
    have hm : movB (a :: c :: r) = a :: movB (c :: r) := by
      cases a <;> cases c <;> first | rfl | exact absurd ⟨rfl, rfl⟩ hac
    have hb : barB (a :: c :: r) = a :: barB (c :: r) := by
      cases a <;> cases c <;> first | rfl | exact absurd ⟨rfl, rfl⟩ hac
    rw [hm, hb, ih.1, ih.2]
    exact ⟨rfl, rfl⟩
theorem hasTB_iff : ∀ (b : List Bool), hasTB b = true ↔ ∃ i j : Nat, b[i]? = some true ∧ (∀ k, k < i → b[k]? ≠ some true) ∧ i < j ∧ b[j]? = some false
  | [] => by simp [hasTB]
  | true :: r => by
    constructor
    · intro h
      obtain ⟨x, hx, hx'⟩ := List.any_eq_true.mp h
      obtain ⟨j, hj⟩ := List.mem_iff_getElem?.mp hx
      refine ⟨0, j + 1, by simp, fun k hk => absurd hk (Nat.not_lt_zero _), by omega, ?_⟩
      cases x
      · simpa using hj
      · cases hx'
    · rintro ⟨i, j, h1, h2, h3, h4⟩
      have hi : i = 0 := by
        cases i with
        | zero => rfl
        | succ i => exact absurd (by simp) (h2 0 (Nat.zero_lt_succ _))
      subst hi
      cases j with
      | zero => omega
      | succ j =>
        exact List.any_eq_true.mpr ⟨false, List.mem_of_getElem? (by simpa using h4), rfl⟩
  | false :: r => by
    show hasTB r = true ↔ _
    rw [hasTB_iff r]
    constructor
    · rintro ⟨i, j, h1, h2, h3, h4⟩
      refine ⟨i + 1, j + 1, by simpa using h1, fun k hk => ?_, by omega, by simpa using h4⟩
      cases k with
      | zero => simp
      | succ k => simpa using h2 k (by omega)
    · rintro ⟨i, j, h1, h2, h3, h4⟩
      cases i with
      | zero => simp at h1
      | succ i => cases j with
        | zero => omega
        | succ j => exact ⟨i, j, by simpa using h1, fun k hk => by simpa using h2 (k + 1) (by omega), by omega, by simpa using h4⟩
theorem map_some {b : List Bool} {i : Nat} : ((b.map ltr)[i]? = some 9 ↔ b[i]? = some true) ∧ ((b.map ltr)[i]? = some 32 ↔ b[i]? = some false) := by
  rw [List.getElem?_map]
  cases b[i]? with
  | none => simp
  | some a => cases a <;> simp [ltr]
theorem find4_eq (x y : Str) (p : Nat) (hp : p ≤ x.length) : find4 x y (p : Int) (x.length : Int) = match Builtin.Str.occurrences x y p x.length 1 with | k :: _ => (k : Int) | [] => -1 := by
  unfold find4
  have e1 : fromIndex x.length (p : Int) = p := by unfold fromIndex; rw [if_neg (by omega)]; omega
  have e2 : min (fromIndex x.length (x.length : Int)) x.length = x.length := by unfold fromIndex; rw [if_neg (by omega)]; omega
  rw [e1, e2]
  try (cases Builtin.Str.occurrences x y p x.length 1 <;> rfl)
theorem ell_B (b : List Bool) : ellM (strB b) = hasTB b := by
  have l0 : (⟨#[]⟩ : Str).length = 0 := rfl
  have l9 : (⟨#[9]⟩ : Str).length = 1 := rfl
  have l32 : (⟨#[32]⟩ : Str).length = 1 := rfl
  have fnil : ∀ p : Nat, p ≤ (strB b).length → find4 (strB b) ⟨#[]⟩ (p : Int) ((strB b).length : Int) = (p : Int) := by
    intro p hp
    rw [find4_eq _ _ _ hp]
    rcases occ_from (strB b) ⟨#[]⟩ p (strB b).length with ⟨h0, hn⟩ | ⟨i, r, h0, h1, h2, h3⟩
    · exact absurd ((at_nil _ _ _).mpr hp) (hn p (Nat.le_refl _))
    · rw [h0]
      have : ¬ p < i := fun q => h3 p (Nat.le_refl _) q ((at_nil _ _ _).mpr hp)
      show (i : Int) = p
      omega
  unfold ellM ellWs
  rw [sTab, sBl, sEm]
  unfold ellGo
  have e0 := fnil 0 (Nat.zero_le _)
  rw [show ((0 : Nat) : Int) = 0 from rfl] at e0
  rw [e0, if_neg (by omega), l0]
  unfold ellGo
  have e1 := find4_eq (strB b) ⟨#[9]⟩ 0 (Nat.zero_le _)
  rw [show ((0 : Nat) : Int) = 0 from rfl] at e1
  rw [show (0 : Int) + ((0 : Nat) : Int) = 0 from rfl, e1]
  rcases occ_from (strB b) ⟨#[9]⟩ 0 (strB b).length with ⟨h0, hn⟩ | ⟨i, r, h0, h1, h2, h3⟩
  · rw [h0]
    show (if (-1 : Int) < 0 then false else _) = _
    rw [if_pos (by decide)]
    cases hh : hasTB b with
    | false => rfl
    | true =>
      obtain ⟨i, j, a1, _⟩ := (hasTB_iff b).mp hh
      exact absurd ((at_one b 9 i).mpr (map_some.1.mpr a1)) (hn i (Nat.zero_le _))
  · rw [h0]
    have a1 := map_some.1.mp ((at_one b 9 i).mp h2)
    have a2 : ∀ k, k < i → b[k]? ≠ some true := fun k hk q => h3 k (Nat.zero_le _) hk ((at_one b 9 k).mpr (map_some.1.mpr q))
    have hil : i < b.length := (List.getElem?_eq_some_iff.mp a1).1
    show (if (i : Int) < 0 then false else _) = _
    rw [if_neg (by omega), l9]
    unfold ellGo
    rw [show (i : Int) + ((1 : Nat) : Int) = ((i + 1 : Nat) : Int) by omega, find4_eq _ _ _ (by rw [strB_length]; omega)]
    rcases occ_from (strB b) ⟨#[32]⟩ (i + 1) (strB b).length with ⟨h0', hn'⟩ | ⟨j, r', h0', h1', h2', h3'⟩
    · rw [h0']
      show (if (-1 : Int) < 0 then false else _) = _
      rw [if_pos (by decide)]
      cases hh : hasTB b with
      | false => rfl
      | true =>
        obtain ⟨i', j, c1, c2, c3, c4⟩ := (hasTB_iff b).mp hh
        have : i' = i := by
          rcases Nat.lt_trichotomy i' i with q | q | q
          · exact absurd c1 (a2 _ q)
          · exact q
          · exact absurd a1 (c2 _ q)
        subst this
        exact absurd ((at_one b 32 j).mpr (map_some.2.mpr c4)) (hn' j (by omega))
    · rw [h0']
      have b1 := map_some.2.mp ((at_one b 32 j).mp h2')
      have hjl : j < b.length := (List.getElem?_eq_some_iff.mp b1).1
      show (if (j : Int) < 0 then false else _) = _
      rw [if_neg (by omega), l32]
      unfold ellGo
      rw [show (j : Int) + ((1 : Nat) : Int) = ((j + 1 : Nat) : Int) by omega, fnil (j + 1) (by rw [strB_length]; omega), if_neg (by omega)]
      exact ((hasTB_iff b).mpr ⟨i, j, a1, a2, by omega, b1⟩).symm
theorem exists_TF : ∀ (b : List Bool), hasTB b = true → ∃ f : Nat, b[f]? = some true ∧ b[f + 1]? = some false
  | [], h => by cases h
  | [true], h => by cases h
  | true :: false :: r, _ => ⟨0, rfl, rfl⟩
  | true :: true :: r, h => by
    have h' : (true :: r).any not = true := h
    have : hasTB (true :: r) = true := by simpa [hasTB] using h'
    obtain ⟨f, h1, h2⟩ := exists_TF (true :: r) this
    exact ⟨f + 1, by simpa using h1, by simpa using h2⟩
  | false :: r, h => by
    obtain ⟨f, h1, h2⟩ := exists_TF r h
    exact ⟨f + 1, by simpa using h1, by simpa using h2⟩
theorem mov_B (b : List Bool) (h : hasTB b = true) : 0 ≤ Txt.find (strB b) (Str.ofString "\t ") ∧ movedM (strB b) = strB (movB b) ∧ bareM (strB b) = strB (barB b) := by
  obtain ⟨f0, c1, c2⟩ := exists_TF b h
  unfold movedM bareM
  rw [sBT, sTB]
  rcases find_whole (strB b) ⟨#[9, 32]⟩ with ⟨_, hn⟩ | ⟨f, e, h1, h2⟩
  · exact absurd ((at_two b f0).mpr ⟨c1, c2⟩) (hn f0)
  · rw [e]
    obtain ⟨a1, a2⟩ := (at_two b f).mp h1
    have hfl : f + 1 < b.length := (List.getElem?_eq_some_iff.mp a2).1
    obtain ⟨m1, m2⟩ := mov_at f b a1 a2 (fun k hk q => h2 k hk ((at_two b k).mpr q))
    rw [show (f : Int) + 2 = ((f + 2 : Nat) : Int) by omega, slT b f (by omega), slF b (f + 2) (by omega), strB_app, strB_app, strB_app, m1, m2]
    exact ⟨by omega, by rw [List.append_assoc], rfl⟩
noncomputable def wordsB : Nat → List (List Bool)
  | 0 => [[]]
  | n + 1 => (wordsB n).flatMap fun l => [true :: l, false :: l]
theorem mem_wordsB : ∀ b : List Bool, b ∈ wordsB b.length
  | [] => .head _
  | a :: b => by
    show a :: b ∈ (wordsB b.length).flatMap _
    refine List.mem_flatMap.mpr ⟨b, mem_wordsB b, ?_⟩
    cases a <;> simp
noncomputable def ltB : List Bool → List Bool → Bool
  | _, [] => false
  | [], _ :: _ => true
  | true :: r, true :: s => ltB r s
  | false :: r, false :: s => ltB r s
  | true :: _, false :: _ => true
  | false :: _, true :: _ => false
noncomputable def g8 (l : List Bool) : Bool := Nat.ble l.length 8
theorem ltr_inj : ∀ {a b : Bool}, ltr a = ltr b → a = b
  | true, true, _ => rfl
  | false, false, _ => rfl
  | true, false, h => by cases h
  | false, true, h => by cases h
theorem strB_inj {a b : List Bool} (h : strB a = strB b) : a = b := by
  have : a.map ltr = b.map ltr := by
    have := congrArg (fun s : Str => s.cps.toList) h
    simpa [strB] using this
  exact List.map_inj_right (fun _ _ => ltr_inj) |>.mp this
theorem strB_iff {a b : List Bool} : strB a = strB b ↔ a = b := ⟨strB_inj, fun h => h ▸ rfl⟩
theorem strB_len (b : List Bool) : (strB b).length = b.length := by
  show (b.map ltr).toArray.size = b.length
  simp
theorem lt_map : ∀ (a b : List Bool), (a.map ltr < b.map ltr) ↔ ltB a b = true
  | _, [] => by simp [ltB]
  | [], b :: s => by cases b <;> simp [ltB]
  | true :: r, true :: s => by simp [ltB, List.cons_lt_cons_iff, ltr, lt_map r s]
  | false :: r, false :: s => by simp [ltB, List.cons_lt_cons_iff, ltr, lt_map r s]
  | true :: r, false :: s => by simp [ltB, List.cons_lt_cons_iff, ltr]
  | false :: r, true :: s => by simp [ltB, List.cons_lt_cons_iff, ltr]
theorem lt_asymmB : ∀ (a b : List Bool), ltB a b = true → ltB b a = false
  | _, [], h => by simp [ltB] at h
  | [], _ :: _, _ => by simp [ltB]
  | true :: r, true :: s, h => by simp only [ltB] at h ⊢; exact lt_asymmB r s h
  | false :: r, false :: s, h => by simp only [ltB] at h ⊢; exact lt_asymmB r s h
  | true :: r, false :: s, h => by simp [ltB]
  | false :: r, true :: s, h => by simp [ltB] at h
theorem coll_B (a b : List Bool) : (collM (strB a) (strB b) == -1) = ltB a b := by
  unfold collM
  have h1 : (strB a).cps.toList = a.map ltr := by simp [strB]
  have h2 : (strB b).cps.toList = b.map ltr := by simp [strB]
  rw [h1, h2]
  have e1 : decide (b.map ltr < a.map ltr) = ltB b a := by rw [Bool.eq_iff_iff]; simp [lt_map]
  have e2 : decide (a.map ltr < b.map ltr) = ltB a b := by rw [Bool.eq_iff_iff]; simp [lt_map]
  rw [e1, e2]
  cases hab : ltB a b with
  | true => rw [lt_asymmB _ _ hab]; decide
  | false => cases ltB b a <;> decide
noncomputable def eqB : List Bool → List Bool → Bool
  | [], [] => true
  | true :: r, true :: s => eqB r s
  | false :: r, false :: s => eqB r s
  | _, _ => false
theorem eqB_iff : ∀ {a b : List Bool}, eqB a b = true ↔ a = b
  | [], [] => by simp [eqB]
  | [], _ :: _ => by simp [eqB]
  | _ :: _, [] => by simp [eqB]
  | true :: r, true :: s => by simp [eqB, eqB_iff]
  | false :: r, false :: s => by simp [eqB, eqB_iff]
  | true :: r, false :: s => by simp [eqB]
  | false :: r, true :: s => by simp [eqB]
noncomputable abbrev DB := List (List Bool × Int)
noncomputable def mapS (D : DB) : List (Str × Int) := D.map fun p => (strB p.1, p.2)
noncomputable def getB : DB → List Bool → Option Int
  | [], _ => none
  | (a, v) :: D, k => match eqB a k with | true => some v | false => getB D k
noncomputable def repB : DB → List Bool → Int → DB
  | [], _, _ => []
  | (a, u) :: D, k, v => match eqB a k with | true => (a, v) :: repB D k v | false => (a, u) :: repB D k v
noncomputable def putB : DB → List Bool → Int → DB
  | [], k, v => [(k, v)]
  | (a, u) :: D, k, v => match eqB a k with | true => (a, v) :: repB D k v | false => (a, u) :: putB D k v
noncomputable def delB : DB → List Bool → DB
  | [], _ => []
  | (a, u) :: D, k => match eqB a k with | true => delB D k | false => (a, u) :: delB D k
noncomputable def leastB : DB → Option (List Bool) → Option (List Bool)
  | [], l => l
  | (a, _) :: D, none => leastB D (some a)
  | (a, _) :: D, some x => match ltB a x with | true => leastB D (some a) | false => leastB D (some x)
theorem eqB_dec (a k : List Bool) : decide (strB a = strB k) = eqB a k := by
  rw [Bool.eq_iff_iff, decide_eq_true_iff, strB_iff, eqB_iff]
theorem get_S : ∀ (D : DB) (k : List Bool), getV (mapS D) (strB k) = getB D k
  | [], _ => rfl
  | (a, v) :: D, k => by
    have ih := get_S D k
    unfold getV mapS at ih ⊢
    rw [List.map_cons, List.find?_cons]
    show Option.map _ (match decide (strB a = strB k) with | true => _ | false => _) = _
    rw [eqB_dec]
    unfold getB
    cases eqB a k
    · exact ih
    · rfl
theorem del_S : ∀ (D : DB) (k : List Bool), delD (mapS D) (strB k) = mapS (delB D k)
  | [], _ => rfl
  | (a, v) :: D, k => by
    have ih := del_S D k
    unfold delD mapS at ih ⊢
    rw [List.map_cons, List.filter_cons]
    have e : decide (strB a ≠ strB k) = !eqB a k := by rw [← eqB_dec]; simp
    show (if decide (strB a ≠ strB k) = true then _ else _) = _
    rw [e]
    unfold delB
    cases eqB a k
    · show (strB a, v) :: _ = _
      rw [ih]; rfl
    · exact ih
theorem least_S : ∀ (D : DB) (l : Option (List Bool)), (mapS D).foldl (fun l p => leastStep l p.1) (l.map strB) = (leastB D l).map strB
  | [], _ => rfl
  | (a, v) :: D, none => by
    show (mapS D).foldl _ (leastStep none (strB a)) = _
    exact least_S D (some a)
  | (a, v) :: D, some x => by
    show (mapS D).foldl _ (leastStep (some (strB x)) (strB a)) = _
    unfold leastB
    have e : leastStep (some (strB x)) (strB a) = if ltB a x = true then some (strB a) else some (strB x) := by
      show (if (collM (strB a) (strB x) == -1) = true then _ else _) = _
      rw [coll_B]
    rw [e]
    cases ltB a x
    · exact least_S D (some x)
    · exact least_S D (some a)
theorem leastM_S (D : DB) : leastM (mapS D) = (leastB D none).map strB := least_S D none
theorem rep_S : ∀ (D : DB) (k : List Bool) (v : Int), (mapS D).map (fun p => if p.1 = strB k then (p.1, v) else p) = mapS (repB D k v)
  | [], _, _ => rfl
  | (a, u) :: D, k, v => by
    have ih := rep_S D k v
    unfold mapS at ih ⊢
    have hu : repB ((a, u) :: D) k v = match eqB a k with | true => (a, v) :: repB D k v | false => (a, u) :: repB D k v := rfl
    rw [List.map_cons, List.map_cons, ih, hu]
    by_cases h : a = k
    · rw [if_pos (by rw [h]), eqB_iff.mpr h]; rfl
    · have e : eqB a k = false := by cases e : eqB a k with | true => exact absurd (eqB_iff.mp e) h | false => rfl
      rw [if_neg (fun q => h (strB_inj q)), e]; rfl
theorem put_S : ∀ (D : DB) (k : List Bool) (v : Int), putD (mapS D) (strB k) v = mapS (putB D k v)
  | [], _, _ => rfl
  | (a, u) :: D, k, v => by
    have ih := put_S D k v
    have hr := rep_S D k v
    unfold putD at ih ⊢
    have hc : mapS ((a, u) :: D) = (strB a, u) :: mapS D := rfl
    rw [hc, List.any_cons, List.map_cons]
    unfold putB
    by_cases h : a = k
    · rw [eqB_iff.mpr h, if_pos (by simp [h]), if_pos (by rw [h]), hr]; rfl
    · have e : eqB a k = false := by cases e : eqB a k with | true => exact absurd (eqB_iff.mp e) h | false => rfl
      have hne : ¬ strB a = strB k := fun q => h (strB_inj q)
      rw [e, if_neg hne, decide_eq_false hne, Bool.false_or]
      show _ = (strB a, u) :: mapS (putB D k v)
      rw [← ih]
      split <;> rfl
noncomputable def innerB : Nat → DB → DB → List Bool → Option (DB × DB × List Bool)
  | 0, _, _, _ => none
  | n + 1, D, B, l =>
    match g8 l && (Nat.ble D.length 100 && Nat.ble B.length 100) with
    | false => none
    | true => match hasTB l with
      | false => some (D, B, l)
      | true => match ltB l (movB l) with
        | false => none
        | true => match getB D l with
          | none => none
          | some a => match leastB (putB (delB D l) (movB l) ((getB (delB D l) (movB l)).getD 0 + a)) none with
            | none => none
            | some l' => innerB n (putB (delB D l) (movB l) ((getB (delB D l) (movB l)).getD 0 + a)) (putB B (barB l) ((getB B (barB l)).getD 0 + a)) l'
theorem g8_len {l : List Bool} (h : g8 l = true) : l.length ≤ 8 := Nat.le_of_ble_eq_true h
theorem mapS_len (D : DB) : (mapS D).length = D.length := List.length_map ..
theorem inner_S : ∀ (n : Nat) (D B : DB) (l : List Bool) (D' B' : DB) (l' : List Bool), innerB n D B l = some (D', B', l') → innerM n (mapS D) (mapS B) (strB l) = some (mapS D', mapS B', strB l')
  | 0, _, _, _, _, _, _, h => by cases h
  | n + 1, D, B, l, D', B', l', h => by
    unfold innerB at h
    split at h
    · cases h
    next hg =>
    have hg' := Bool.and_eq_true_iff.mp hg
    have hg'' := Bool.and_eq_true_iff.mp hg'.2
    have h1 : D.length ≤ 100 := Nat.le_of_ble_eq_true hg''.1
    have h2 : B.length ≤ 100 := Nat.le_of_ble_eq_true hg''.2
    have h3 := g8_len hg'.1
    have hell := ell_B l
    unfold innerM
    rw [if_neg (by rw [strB_len, mapS_len, mapS_len]; omega), hell]
    split at h
    · next ht =>
      cases h
      rw [ht, if_neg Bool.false_ne_true]
    · next ht =>
      obtain ⟨f0, f1, f2⟩ := mov_B l ht
      rw [ht, if_pos rfl, if_neg (by omega), f1, f2]
      split at h
      · cases h
      next hlt =>
      have hcoll := coll_B l (movB l)
      rw [hlt] at hcoll
      have hcoll' : ¬ ((collM (strB l) (strB (movB l)) != -1) = true) := by
        rw [bne, hcoll]; decide
      rw [if_neg hcoll', get_S]
      split at h
      · cases h
      next a ha =>
      try rw [ha]
      try dsimp only
      rw [del_S, get_S, put_S, leastM_S]
      split at h
      · cases h
      next l₂ hl₂ =>
      try rw [hl₂]
      try dsimp only [Option.map]
      rw [get_S, put_S]
      exact inner_S n _ _ _ _ _ _ h
noncomputable def normB (p q : Nat) : List Bool := List.replicate p false ++ List.replicate q true
noncomputable def outerB (len T : Nat) : Nat → DB → List Int → Option (List Int)
  | 0, _, _ => none
  | n + 1, D, c =>
    match D with
    | [] => some c
    | _ :: _ =>
      match Nat.ble D.length 100 && (Nat.ble c.length T && (Nat.ble (T + c.length) len && Nat.ble len 8)) with
      | false => none
      | true => match leastB D none with
        | none => none
        | some l => match innerB 200 D [] l with
          | none => none
          | some (D', B', l') =>
            match Nat.beq D'.length 1 && eqB l' (normB (len - T - c.length) (T - c.length)) with
            | false => none
            | true => match getB D' l' with
              | none => none
              | some v => outerB len T n B' (c ++ [v])
noncomputable def chkS (p q : Nat) : Bool := decide (stripM (strB (normB p q) ++ Str.ofString " ") (p : Int) = some (Txt.mul (Str.ofString "\t") (q : Int) ++ Str.ofString " "))
theorem chkS_all : ((List.range 9).all fun p => (List.range 9).all fun q => chkS p q) = true := by decide +kernel
theorem chkS_of {p q : Nat} (h1 : p ≤ 8) (h2 : q ≤ 8) : stripM (strB (normB p q) ++ Str.ofString " ") (p : Int) = some (Txt.mul (Str.ofString "\t") (q : Int) ++ Str.ofString " ") := by
  have := List.all_eq_true.mp (List.all_eq_true.mp chkS_all p (List.mem_range.mpr (by omega))) q (List.mem_range.mpr (by omega))
  unfold chkS at this
  exact of_decide_eq_true this
theorem outer_S (w : List Bool) (len T : Nat) (hlen : w.length = len) : ∀ (n : Nat) (D : DB) (c c' : List Int), outerB len T n D c = some c' → outerM (strB w) (T : Int) n (mapS D) c = some c'
  | 0, _, _, _, h => by cases h
  | n + 1, [], c, c', h => h
  | n + 1, p :: D, c, c', h => by
    unfold outerB at h
    dsimp only at h
    split at h
    · cases h
    next hg =>
    simp only [Bool.and_eq_true, Nat.ble_eq] at hg
    obtain ⟨g1, g2, g3, g4⟩ := hg
    split at h
    · cases h
    next l hl =>
    split at h
    · cases h
    next D' B' l' hin =>
    split at h
    · cases h
    next hb =>
    simp only [Bool.and_eq_true] at hb
    have hb1 : D'.length = 1 := Nat.eq_of_beq_eq_true hb.1
    have hb2 := eqB_iff.mp hb.2
    split at h
    · cases h
    next v hv =>
    have hin' := inner_S _ _ _ _ _ _ _ hin
    unfold outerM
    rw [if_neg (by simp [mapS]), if_neg (by rw [mapS_len]; omega), leastM_S, hl]
    dsimp only [Option.map]
    rw [show ([] : List (Str × Int)) = mapS [] from rfl, hin']
    dsimp only
    have e1 : ((strB w).length : Int) - T - c.length = ((len - T - c.length : Nat) : Int) := by rw [strB_len, hlen]; omega
    have e2 : (T : Int) - c.length = ((T - c.length : Nat) : Int) := by omega
    rw [if_neg (by rw [mapS_len]; omega), if_neg (by omega), e1, e2, hb2, chkS_of (by omega) (by omega)]
    dsimp only
    rw [if_neg (by simp), get_S, ← hb2, hv]
    dsimp only
    exact outer_S w len T hlen n B' (c ++ [v]) c' h
noncomputable def countsB (w : List Bool) : Option (List Int) := match g8 w with | true => outerB w.length (w.filter id).length 20 [(w, 1)] [] | false => none
theorem counts_S {w : List Bool} {c : List Int} (h : countsB w = some c) : countsM (strB w) = some c ∧ Txt.count (strB w) (Str.ofString "\t") = ((w.filter id).length : Int) := by
  unfold countsB at h
  split at h
  · next hg =>
    have hc1 := cnt_B w
    refine ⟨?_, hc1⟩
    unfold countsM
    rw [if_neg (by rw [strB_len]; have := g8_len hg; omega), hc1]
    exact outer_S w _ _ rfl 20 [(w, 1)] [] c h
  · cases h
noncomputable def cntB (w : List Bool) : Nat := (w.filter id).length
theorem ws_go : ∀ (w : List Bool) (b n nt : Nat) (c : List Int), (wsGo (w.map ltr ++ [120]) b n nt c).2.1 = n + w.length ∧ (wsGo (w.map ltr ++ [120]) b n nt c).2.2.1 = nt + cntB w
  | [], b, n, nt, c => by
    show (wsGo [120] b n nt c).2.1 = _ ∧ _
    simp [wsGo, cntB]
  | true :: w, b, n, nt, c => by
    have ih := ws_go w 0 (n + 1) (nt + 1) (bump c b)
    have e : wsGo ((true :: w).map ltr ++ [120]) b n nt c = wsGo (w.map ltr ++ [120]) 0 (n + 1) (nt + 1) (bump c b) := rfl
    rw [e, ih.1, ih.2]
    simp [cntB]; omega
  | false :: w, b, n, nt, c => by
    have ih := ws_go w (b + 1) (n + 1) nt c
    have e : wsGo ((false :: w).map ltr ++ [120]) b n nt c = wsGo (w.map ltr ++ [120]) (b + 1) (n + 1) nt c := rfl
    rw [e, ih.1, ih.2]
    simp [cntB]; omega
theorem sX : Str.ofString "x" = ⟨#[120]⟩ := by decide +kernel
theorem ws_x (w : List Bool) : (wsM (strB w ++ Str.ofString "x")).2.1 = w.length ∧ (wsM (strB w ++ Str.ofString "x")).2.2.1 = cntB w := by
  have e : (strB w ++ Str.ofString "x").cps.toList = w.map ltr ++ [120] := by
    rw [sX]
    show (_ ++ _ : Array Nat).toList = _
    rw [Array.toList_append]
    show (strB w).cps.toList ++ _ = _
    rw [strB_list]
  unfold wsM
  rw [e]
  have := ws_go w 0 0 0 []
  rw [this.1, this.2]
  omega
noncomputable def strL (l : List Nat) : Str := ⟨l.toArray⟩
theorem strL_app (a b : List Nat) : strL a ++ strL b = strL (a ++ b) := by
  show Str.mk (_ ++ _) = Str.mk _
  refine congrArg Str.mk ?_
  apply Array.ext'
  simp [strL]
theorem mul_sp (k : Nat) : Txt.mul (Str.ofString " ") (k : Int) = strL (List.replicate k 32) := by
  have fold : ∀ (k : Nat) (acc : Array Nat), (List.replicate k (#[32] : Array Nat)).foldl (· ++ ·) acc = acc ++ (List.replicate k 32).toArray := by
    intro k
    induction k with
    | zero => intro acc; simp
    | succ k ih =>
      intro acc
      rw [List.replicate_succ, List.foldl_cons, ih, List.replicate_succ]
      apply Array.ext'
      simp
  rw [sBl]
  unfold Txt.mul strL
  split
  · have : k = 0 := by omega
    subst this; rfl
  · split
    · next h =>
      have : k = 1 := by
        simp [Str.length] at h
        omega
      subst this; rfl
    · rw [Int.toNat_natCast]
      show Str.mk (List.foldl _ _ (List.replicate k (#[32] : Array Nat))) = _
      rw [fold]
      simp
noncomputable def runsB (T : Nat) : List Bool → List Nat
  | [] => []
  | true :: r => List.replicate (r.length + T - 2 * cntB r) 32 ++ 9 :: runsB T r
  | false :: r => runsB T r
theorem item_B (w : List Bool) (i : Nat) (a : Bool) (h : w[i]? = some a) : (Txt.item (strB w) (i : Int) == Str.ofString "\t") = a := by
  have hi := (List.getElem?_eq_some_iff.mp h).1
  have e : Txt.item (strB w) (i : Int) = ⟨#[ltr a]⟩ := by
    have e2 : (strB w).cps[i]? = some (ltr a) := by
      rw [← Array.getElem?_toList, strB_list, List.getElem?_map, h]; rfl
    have e3 : seqIndex? (i : Int) (strB w).length = some i := by
      unfold seqIndex?
      rw [strB_length]
      simp only [show ¬ ((i : Int) < 0) by omega, if_false]
      rw [if_pos (by simp; omega)]
      rfl
    unfold Txt.item Txt.charAt
    rw [e3]
    show (⟨#[((strB w).cps[i]?).getD 0]⟩ : Str) = _
    rw [e2]; rfl
  rw [e, sTab]
  cases a <;> decide
theorem cnt_le (w : List Bool) : cntB w ≤ w.length := List.length_filter_le ..
theorem cnt_drop (w : List Bool) (i : Nat) : cntB (w.drop i) ≤ cntB w := by
  unfold cntB
  exact ((List.drop_sublist i w).filter id).length_le
theorem lead_go (w : List Bool) (hw : w.length ≤ 50) : ∀ (n i : Nat) (r : List Nat), n + i = w.length → r.length + (runsB (cntB w) (w.drop i)).length ≤ 100 →
    leadGo (strB w) (cntB w : Nat) n i (strL r) = some (strL (r ++ runsB (cntB w) (w.drop i)))
  | 0, i, r, hn, _ => by
    have e : w.drop i = [] := by rw [List.drop_eq_nil_iff]; omega
    rw [e]
    show some (strL r) = some (strL (r ++ []))
    rw [List.append_nil]
  | n + 1, i, r, hn, hz => by
    have hi : i < w.length := by omega
    have hd : w.drop i = w[i] :: w.drop (i + 1) := List.drop_eq_getElem_cons hi
    rw [hd] at hz ⊢
    have hit := item_B w i w[i] (List.getElem?_eq_getElem hi)
    have hrl : (strL r).length = r.length := by simp [strL, Str.length]
    unfold leadGo
    rw [if_neg (by rw [hrl]; omega), hit]
    cases ha : w[i] with
    | false =>
      rw [ha] at hz
      rw [if_neg Bool.false_ne_true]
      exact lead_go w hw n (i + 1) r (by omega) hz
    | true =>
      rw [ha] at hz
      rw [if_pos rfl]
      have hx := ws_x (w.drop (i + 1))
      have hsl := slF w (i + 1) (by omega)
      have hc1 := cnt_le (w.drop (i + 1))
      have hc2 := cnt_drop w (i + 1)
      have hc3 := cnt_le w
      have hl : (w.drop (i + 1)).length = w.length - (i + 1) := List.length_drop ..
      rw [show (i : Int) + 1 = ((i + 1 : Nat) : Int) by omega, hsl, hx.1, hx.2]
      generalize hk : (w.drop (i + 1)).length + cntB w - 2 * cntB (w.drop (i + 1)) = k
      have ek : ((w.drop (i + 1)).length : Int) - 2 * (cntB (w.drop (i + 1)) : Nat) + (cntB w : Nat) = (k : Int) := by omega
      rw [ek, if_neg (by omega), mul_sp, sTab]
      have e1 : runsB (cntB w) (true :: w.drop (i + 1)) = List.replicate k 32 ++ 9 :: runsB (cntB w) (w.drop (i + 1)) := by rw [← hk]; rfl
      rw [e1] at hz ⊢
      have e2 : strL r ++ (strL (List.replicate k 32) ++ (⟨#[9]⟩ : Str)) = strL (r ++ (List.replicate k 32 ++ [9])) := by
        rw [show (⟨#[9]⟩ : Str) = strL [9] from rfl, strL_app, strL_app]
      rw [e2, lead_go w hw n (i + 1) _ (by omega) (by simp at hz ⊢; omega)]
      congr 2
      simp
noncomputable def rawB (w : List Bool) : List Nat := runsB (cntB w) w ++ (List.replicate (w.length - cntB w) 32 ++ [120])
theorem lead_B (w : List Bool) (hw : w.length ≤ 50) (h : (rawB w).length ≤ 100) : leadRaw (strB w) = some (strL (rawB w)) := by
  have hx := ws_x w
  have hc := cnt_le w
  have hl : (runsB (cntB w) w).length + (w.length - cntB w) + 1 ≤ 100 := by
    unfold rawB at h; simp at h; omega
  have hg := lead_go w hw w.length 0 [] (by omega) (by rw [List.drop_zero]; simp; omega)
  rw [List.drop_zero, List.nil_append] at hg
  have e0 : Str.ofString "" = strL [] := by rw [sEm]; rfl
  unfold leadRaw
  rw [if_neg (by rw [strB_length]; omega), strB_length, e0, hx.1, hx.2, hg]
  dsimp only
  have ek : (w.length : Int) - (cntB w : Nat) = ((w.length - cntB w : Nat) : Int) := by omega
  have eL : ∀ l : List Nat, (strL l).length = l.length := fun l => by simp [strL, Str.length]
  rw [ek, if_neg (by omega), mul_sp, sX, show (⟨#[120]⟩ : Str) = strL [120] from rfl, strL_app, strL_app, if_neg (by rw [eL, eL]; simp; omega)]
  unfold rawB
  rw [List.append_assoc]
theorem wsM_L (l : List Nat) : wsM (strL l) = wsGo l 0 0 0 [] := by
  unfold wsM strL
  simp
structure Cls where
  cnt : List Int
  bb : Nat
  c : List Int
  T : Nat
  B : Nat
noncomputable def KT : List Cls := [
  ⟨[0,1,1,1,1], 0, [1], 4, 0⟩, ⟨[0,1,1,1], 1, [1], 3, 1⟩, ⟨[0,0,2,1], 1, [1,1], 3, 1⟩, ⟨[0,1,1], 2, [1], 2, 2⟩, ⟨[0,0,1,2], 1, [1,2], 3, 1⟩, ⟨[0,0,2], 2, [1,1], 2, 2⟩,
  ⟨[0,0,1,1], 2, [1,2], 2, 2⟩, ⟨[0,1], 3, [1], 1, 3⟩, ⟨[0,0,1,1,1], 1, [1,3], 3, 1⟩, ⟨[0,0,0,2], 2, [1,3,1], 2, 2⟩, ⟨[0,0,1], 3, [1,1], 1, 3⟩, ⟨[0,0,0,1,1], 2, [1,4,2], 2, 2⟩,
  ⟨[0,0,0,1], 3, [1,2], 1, 3⟩, ⟨[0,0,0,0,1], 3, [1,3], 1, 3⟩, ⟨[], 4, [1], 0, 4⟩, ⟨[0,1,1,1,1,1], 0, [1], 5, 0⟩, ⟨[0,1,1,1,1], 1, [1], 4, 1⟩, ⟨[0,0,2,1,1], 1, [1,1], 4, 1⟩,
  ⟨[0,1,1,1], 2, [1], 3, 2⟩, ⟨[0,0,1,2,1], 1, [1,2], 4, 1⟩, ⟨[0,0,2,1], 2, [1,1], 3, 2⟩, ⟨[0,0,1,2], 2, [1,2], 3, 2⟩, ⟨[0,1,1], 3, [1], 2, 3⟩, ⟨[0,0,1,1,2], 1, [1,3], 4, 1⟩,
  ⟨[0,0,0,3], 2, [1,3,1], 3, 2⟩, ⟨[0,0,2], 3, [1,1], 2, 3⟩, ⟨[0,0,0,2,1], 2, [1,4,2], 3, 2⟩, ⟨[0,0,1,1], 3, [1,2], 2, 3⟩, ⟨[0,0,1,0,1], 3, [1,3], 2, 3⟩, ⟨[0,1], 4, [1], 1, 4⟩,
  ⟨[0,0,1,1,1,1], 1, [1,4], 4, 1⟩, ⟨[0,0,1,1,1], 2, [1,3], 3, 2⟩, ⟨[0,0,0,1,2], 2, [1,5,4], 3, 2⟩, ⟨[0,0,0,2], 3, [1,3,1], 2, 3⟩, ⟨[0,0,0,1,1], 3, [1,4,2], 2, 3⟩, ⟨[0,0,1], 4, [1,1], 1, 4⟩,
  ⟨[0,0,0,1,1,1], 2, [1,6,6], 3, 2⟩, ⟨[0,0,0,0,2], 3, [1,5,4], 2, 3⟩, ⟨[0,0,0,1], 4, [1,2], 1, 4⟩, ⟨[0,0,0,0,1,1], 3, [1,6,6], 2, 3⟩, ⟨[0,0,0,0,1], 4, [1,3], 1, 4⟩, ⟨[0,0,0,0,0,1], 4, [1,4], 1, 4⟩,
  ⟨[], 5, [1], 0, 5⟩, ⟨[0,1,1,1,1,1,1], 0, [1], 6, 0⟩, ⟨[0,1,1,1,1,1], 1, [1], 5, 1⟩, ⟨[0,0,2,1,1,1], 1, [1,1], 5, 1⟩, ⟨[0,1,1,1,1], 2, [1], 4, 2⟩, ⟨[0,0,1,2,1,1], 1, [1,2], 5, 1⟩,
  ⟨[0,0,2,1,1], 2, [1,1], 4, 2⟩, ⟨[0,0,1,2,1], 2, [1,2], 4, 2⟩, ⟨[0,1,1,1], 3, [1], 3, 3⟩, ⟨[0,0,1,1,2,1], 1, [1,3], 5, 1⟩, ⟨[0,0,0,3,1], 2, [1,3,1], 4, 2⟩, ⟨[0,0,2,1], 3, [1,1], 3, 3⟩,
  ⟨[0,0,0,2,2], 2, [1,4,2], 4, 2⟩, ⟨[0,0,1,2], 3, [1,2], 3, 3⟩, ⟨[0,0,1,1,1], 3, [1,3], 3, 3⟩, ⟨[0,1,1], 4, [1], 2, 4⟩, ⟨[0,0,1,1,1,2], 1, [1,4], 5, 1⟩, ⟨[0,0,1,1,2], 2, [1,3], 4, 2⟩,
  ⟨[0,0,0,1,3], 2, [1,5,4], 4, 2⟩, ⟨[0,0,0,3], 3, [1,3,1], 3, 3⟩, ⟨[0,0,0,2,1], 3, [1,4,2], 3, 3⟩, ⟨[0,0,2], 4, [1,1], 2, 4⟩, ⟨[0,0,0,1,2,1], 2, [1,6,6], 4, 2⟩, ⟨[0,0,0,1,2], 3, [1,5,4], 3, 3⟩,
  ⟨[0,0,1,1], 4, [1,2], 2, 4⟩, ⟨[0,0,0,1,1,1], 3, [1,6,6], 3, 3⟩, ⟨[0,0,1,0,1], 4, [1,3], 2, 4⟩, ⟨[0,0,1,0,0,1], 4, [1,4], 2, 4⟩, ⟨[0,1], 5, [1], 1, 5⟩, ⟨[0,0,1,1,1,1,1], 1, [1,5], 5, 1⟩,
  ⟨[0,0,1,1,1,1], 2, [1,4], 4, 2⟩, ⟨[0,0,0,2,1,1], 2, [1,5,3], 4, 2⟩, ⟨[0,0,0,1,1,2], 2, [1,7,9], 4, 2⟩, ⟨[0,0,0,0,3], 3, [1,6,7,1], 3, 3⟩, ⟨[0,0,0,2], 4, [1,3,1], 2, 4⟩, ⟨[0,0,0,0,2,1], 3, [1,7,10,2], 3, 3⟩,
  ⟨[0,0,0,1,1], 4, [1,4,2], 2, 4⟩, ⟨[0,0,0,1,0,1], 4, [1,5,3], 2, 4⟩, ⟨[0,0,1], 5, [1,1], 1, 5⟩, ⟨[0,0,0,1,1,1,1], 2, [1,8,12], 4, 2⟩, ⟨[0,0,0,0,1,2], 3, [1,8,14,4], 3, 3⟩, ⟨[0,0,0,0,2], 4, [1,5,4], 2, 4⟩,
  ⟨[0,0,0,0,1,1], 4, [1,6,6], 2, 4⟩, ⟨[0,0,0,1], 5, [1,2], 1, 5⟩, ⟨[0,0,0,0,1,1,1], 3, [1,9,18,6], 3, 3⟩, ⟨[0,0,0,0,0,2], 4, [1,7,9], 2, 4⟩, ⟨[0,0,0,0,1], 5, [1,3], 1, 5⟩, ⟨[0,0,0,0,0,1,1], 4, [1,8,12], 2, 4⟩,
  ⟨[0,0,0,0,0,1], 5, [1,4], 1, 5⟩, ⟨[0,0,0,0,0,0,1], 5, [1,5], 1, 5⟩, ⟨[], 6, [1], 0, 6⟩, ⟨[0,1,1,1,1,1,1,1], 0, [1], 7, 0⟩, ⟨[0,1,1,1,1,1,1], 1, [1], 6, 1⟩, ⟨[0,0,2,1,1,1,1], 1, [1,1], 6, 1⟩,
  ⟨[0,1,1,1,1,1], 2, [1], 5, 2⟩, ⟨[0,0,1,2,1,1,1], 1, [1,2], 6, 1⟩, ⟨[0,0,2,1,1,1], 2, [1,1], 5, 2⟩, ⟨[0,0,1,2,1,1], 2, [1,2], 5, 2⟩, ⟨[0,1,1,1,1], 3, [1], 4, 3⟩, ⟨[0,0,1,1,2,1,1], 1, [1,3], 6, 1⟩,
  ⟨[0,0,0,3,1,1], 2, [1,3,1], 5, 2⟩, ⟨[0,0,2,1,1], 3, [1,1], 4, 3⟩, ⟨[0,0,0,2,2,1], 2, [1,4,2], 5, 2⟩, ⟨[0,0,1,2,1], 3, [1,2], 4, 3⟩, ⟨[0,0,1,1,2], 3, [1,3], 4, 3⟩, ⟨[0,1,1,1], 4, [1], 3, 4⟩,
  ⟨[0,0,1,1,1,2,1], 1, [1,4], 6, 1⟩, ⟨[0,0,1,1,2,1], 2, [1,3], 5, 2⟩, ⟨[0,0,0,1,3,1], 2, [1,5,4], 5, 2⟩, ⟨[0,0,0,3,1], 3, [1,3,1], 4, 3⟩, ⟨[0,0,0,2,2], 3, [1,4,2], 4, 3⟩, ⟨[0,0,2,1], 4, [1,1], 3, 4⟩,
  ⟨[0,0,0,1,2,2], 2, [1,6,6], 5, 2⟩, ⟨[0,0,0,1,3], 3, [1,5,4], 4, 3⟩, ⟨[0,0,1,2], 4, [1,2], 3, 4⟩, ⟨[0,0,0,1,2,1], 3, [1,6,6], 4, 3⟩, ⟨[0,0,1,1,1], 4, [1,3], 3, 4⟩, ⟨[0,0,1,1,0,1], 4, [1,4], 3, 4⟩,
  ⟨[0,1,1], 5, [1], 2, 5⟩, ⟨[0,0,1,1,1,1,2], 1, [1,5], 6, 1⟩, ⟨[0,0,1,1,1,2], 2, [1,4], 5, 2⟩, ⟨[0,0,0,2,1,2], 2, [1,5,3], 5, 2⟩, ⟨[0,0,0,1,1,3], 2, [1,7,9], 5, 2⟩, ⟨[0,0,0,0,4], 3, [1,6,7,1], 4, 3⟩,
  ⟨[0,0,0,3], 4, [1,3,1], 3, 4⟩, ⟨[0,0,0,0,3,1], 3, [1,7,10,2], 4, 3⟩, ⟨[0,0,0,2,1], 4, [1,4,2], 3, 4⟩, ⟨[0,0,0,2,0,1], 4, [1,5,3], 3, 4⟩, ⟨[0,0,2], 5, [1,1], 2, 5⟩, ⟨[0,0,0,1,1,2,1], 2, [1,8,12], 5, 2⟩,
  ⟨[0,0,0,0,2,2], 3, [1,8,14,4], 4, 3⟩, ⟨[0,0,0,1,2], 4, [1,5,4], 3, 4⟩, ⟨[0,0,0,1,1,1], 4, [1,6,6], 3, 4⟩, ⟨[0,0,1,1], 5, [1,2], 2, 5⟩, ⟨[0,0,0,0,2,1,1], 3, [1,9,18,6], 4, 3⟩, ⟨[0,0,0,1,0,2], 4, [1,7,9], 3, 4⟩,
  ⟨[0,0,1,0,1], 5, [1,3], 2, 5⟩, ⟨[0,0,0,1,0,1,1], 4, [1,8,12], 3, 4⟩, ⟨[0,0,1,0,0,1], 5, [1,4], 2, 5⟩, ⟨[0,0,1,0,0,0,1], 5, [1,5], 2, 5⟩, ⟨[0,1], 6, [1], 1, 6⟩, ⟨[0,0,1,1,1,1,1,1], 1, [1,6], 6, 1⟩,
  ⟨[0,0,1,1,1,1,1], 2, [1,5], 5, 2⟩, ⟨[0,0,0,2,1,1,1], 2, [1,6,4], 5, 2⟩, ⟨[0,0,1,1,1,1], 3, [1,4], 4, 3⟩, ⟨[0,0,0,1,2,1,1], 2, [1,7,8], 5, 2⟩, ⟨[0,0,0,2,1,1], 3, [1,5,3], 4, 3⟩, ⟨[0,0,0,1,1,1,2], 2, [1,9,16], 5, 2⟩,
  ⟨[0,0,0,1,1,2], 3, [1,7,9], 4, 3⟩, ⟨[0,0,0,0,1,3], 3, [1,9,19,8], 4, 3⟩, ⟨[0,0,0,0,3], 4, [1,6,7,1], 3, 4⟩, ⟨[0,0,0,0,2,1], 4, [1,7,10,2], 3, 4⟩, ⟨[0,0,0,2], 5, [1,3,1], 2, 5⟩, ⟨[0,0,0,0,1,2,1], 3, [1,10,24,12], 4, 3⟩,
  ⟨[0,0,0,0,1,2], 4, [1,8,14,4], 3, 4⟩, ⟨[0,0,0,1,1], 5, [1,4,2], 2, 5⟩, ⟨[0,0,0,0,1,1,1], 4, [1,9,18,6], 3, 4⟩, ⟨[0,0,0,1,0,1], 5, [1,5,3], 2, 5⟩, ⟨[0,0,0,1,0,0,1], 5, [1,6,4], 2, 5⟩, ⟨[0,0,1], 6, [1,1], 1, 6⟩,
  ⟨[0,0,0,1,1,1,1,1], 2, [1,10,20], 5, 2⟩, ⟨[0,0,0,1,1,1,1], 3, [1,8,12], 4, 3⟩, ⟨[0,0,0,0,1,1,2], 3, [1,11,30,18], 4, 3⟩, ⟨[0,0,0,0,0,3], 4, [1,9,19,8], 3, 4⟩, ⟨[0,0,0,0,2], 5, [1,5,4], 2, 5⟩, ⟨[0,0,0,0,0,2,1], 4, [1,10,24,12], 3, 4⟩,
  ⟨[0,0,0,0,1,1], 5, [1,6,6], 2, 5⟩, ⟨[0,0,0,0,1,0,1], 5, [1,7,8], 2, 5⟩, ⟨[0,0,0,1], 6, [1,2], 1, 6⟩, ⟨[0,0,0,0,1,1,1,1], 3, [1,12,36,24], 4, 3⟩, ⟨[0,0,0,0,0,1,2], 4, [1,11,30,18], 3, 4⟩, ⟨[0,0,0,0,0,2], 5, [1,7,9], 2, 5⟩,
  ⟨[0,0,0,0,0,1,1], 5, [1,8,12], 2, 5⟩, ⟨[0,0,0,0,1], 6, [1,3], 1, 6⟩, ⟨[0,0,0,0,0,1,1,1], 4, [1,12,36,24], 3, 4⟩, ⟨[0,0,0,0,0,0,2], 5, [1,9,16], 2, 5⟩, ⟨[0,0,0,0,0,1], 6, [1,4], 1, 6⟩, ⟨[0,0,0,0,0,0,1,1], 5, [1,10,20], 2, 5⟩,
  ⟨[0,0,0,0,0,0,1], 6, [1,5], 1, 6⟩, ⟨[0,0,0,0,0,0,0,1], 6, [1,6], 1, 6⟩, ⟨[], 7, [1], 0, 7⟩, ⟨[0,1,1,1,1,1,1,1], 1, [1], 7, 1⟩, ⟨[0,1,1,1,1,1,1], 2, [1], 6, 2⟩, ⟨[0,0,2,1,1,1,1], 2, [1,1], 6, 2⟩,
  ⟨[0,1,1,1,1,1], 3, [1], 5, 3⟩, ⟨[0,0,1,2,1,1,1], 2, [1,2], 6, 2⟩, ⟨[0,0,2,1,1,1], 3, [1,1], 5, 3⟩, ⟨[0,0,1,2,1,1], 3, [1,2], 5, 3⟩, ⟨[0,1,1,1,1], 4, [1], 4, 4⟩, ⟨[0,0,1,1,2,1,1], 2, [1,3], 6, 2⟩,
  ⟨[0,0,0,3,1,1], 3, [1,3,1], 5, 3⟩, ⟨[0,0,2,1,1], 4, [1,1], 4, 4⟩, ⟨[0,0,0,2,2,1], 3, [1,4,2], 5, 3⟩, ⟨[0,0,1,2,1], 4, [1,2], 4, 4⟩, ⟨[0,0,1,1,2], 4, [1,3], 4, 4⟩, ⟨[0,1,1,1], 5, [1], 3, 5⟩,
  ⟨[0,0,1,1,1,2,1], 2, [1,4], 6, 2⟩, ⟨[0,0,1,1,2,1], 3, [1,3], 5, 3⟩, ⟨[0,0,0,1,3,1], 3, [1,5,4], 5, 3⟩, ⟨[0,0,0,3,1], 4, [1,3,1], 4, 4⟩, ⟨[0,0,0,2,2], 4, [1,4,2], 4, 4⟩, ⟨[0,0,2,1], 5, [1,1], 3, 5⟩,
  ⟨[0,0,0,1,2,2], 3, [1,6,6], 5, 3⟩, ⟨[0,0,0,1,3], 4, [1,5,4], 4, 4⟩, ⟨[0,0,1,2], 5, [1,2], 3, 5⟩, ⟨[0,0,0,1,2,1], 4, [1,6,6], 4, 4⟩, ⟨[0,0,1,1,1], 5, [1,3], 3, 5⟩, ⟨[0,0,1,1,0,1], 5, [1,4], 3, 5⟩,
  ⟨[0,1,1], 6, [1], 2, 6⟩, ⟨[0,0,1,1,1,1,2], 2, [1,5], 6, 2⟩, ⟨[0,0,1,1,1,2], 3, [1,4], 5, 3⟩, ⟨[0,0,0,2,1,2], 3, [1,5,3], 5, 3⟩, ⟨[0,0,0,1,1,3], 3, [1,7,9], 5, 3⟩, ⟨[0,0,0,0,4], 4, [1,6,7,1], 4, 4⟩,
  ⟨[0,0,0,3], 5, [1,3,1], 3, 5⟩, ⟨[0,0,0,0,3,1], 4, [1,7,10,2], 4, 4⟩, ⟨[0,0,0,2,1], 5, [1,4,2], 3, 5⟩, ⟨[0,0,0,2,0,1], 5, [1,5,3], 3, 5⟩, ⟨[0,0,2], 6, [1,1], 2, 6⟩, ⟨[0,0,0,1,1,2,1], 3, [1,8,12], 5, 3⟩,
  ⟨[0,0,0,0,2,2], 4, [1,8,14,4], 4, 4⟩, ⟨[0,0,0,1,2], 5, [1,5,4], 3, 5⟩, ⟨[0,0,0,1,1,1], 5, [1,6,6], 3, 5⟩, ⟨[0,0,1,1], 6, [1,2], 2, 6⟩, ⟨[0,0,0,0,2,1,1], 4, [1,9,18,6], 4, 4⟩, ⟨[0,0,0,1,0,2], 5, [1,7,9], 3, 5⟩,
  ⟨[0,0,1,0,1], 6, [1,3], 2, 6⟩, ⟨[0,0,0,1,0,1,1], 5, [1,8,12], 3, 5⟩, ⟨[0,0,1,0,0,1], 6, [1,4], 2, 6⟩, ⟨[0,0,1,0,0,0,1], 6, [1,5], 2, 6⟩, ⟨[0,1], 7, [1], 1, 7⟩, ⟨[0,0,1,1,1,1,1,1], 2, [1,6], 6, 2⟩,
  ⟨[0,0,1,1,1,1,1], 3, [1,5], 5, 3⟩, ⟨[0,0,0,2,1,1,1], 3, [1,6,4], 5, 3⟩, ⟨[0,0,1,1,1,1], 4, [1,4], 4, 4⟩, ⟨[0,0,0,1,2,1,1], 3, [1,7,8], 5, 3⟩, ⟨[0,0,0,2,1,1], 4, [1,5,3], 4, 4⟩, ⟨[0,0,0,1,1,1,2], 3, [1,9,16], 5, 3⟩,
  ⟨[0,0,0,1,1,2], 4, [1,7,9], 4, 4⟩, ⟨[0,0,0,0,1,3], 4, [1,9,19,8], 4, 4⟩, ⟨[0,0,0,0,3], 5, [1,6,7,1], 3, 5⟩, ⟨[0,0,0,0,2,1], 5, [1,7,10,2], 3, 5⟩, ⟨[0,0,0,2], 6, [1,3,1], 2, 6⟩, ⟨[0,0,0,0,1,2,1], 4, [1,10,24,12], 4, 4⟩,
  ⟨[0,0,0,0,1,2], 5, [1,8,14,4], 3, 5⟩, ⟨[0,0,0,1,1], 6, [1,4,2], 2, 6⟩, ⟨[0,0,0,0,1,1,1], 5, [1,9,18,6], 3, 5⟩, ⟨[0,0,0,1,0,1], 6, [1,5,3], 2, 6⟩, ⟨[0,0,0,1,0,0,1], 6, [1,6,4], 2, 6⟩, ⟨[0,0,1], 7, [1,1], 1, 7⟩,
  ⟨[0,0,0,1,1,1,1,1], 3, [1,10,20], 5, 3⟩, ⟨[0,0,0,1,1,1,1], 4, [1,8,12], 4, 4⟩, ⟨[0,0,0,0,1,1,2], 4, [1,11,30,18], 4, 4⟩, ⟨[0,0,0,0,0,3], 5, [1,9,19,8], 3, 5⟩, ⟨[0,0,0,0,2], 6, [1,5,4], 2, 6⟩, ⟨[0,0,0,0,0,2,1], 5, [1,10,24,12], 3, 5⟩,
  ⟨[0,0,0,0,1,1], 6, [1,6,6], 2, 6⟩, ⟨[0,0,0,0,1,0,1], 6, [1,7,8], 2, 6⟩, ⟨[0,0,0,1], 7, [1,2], 1, 7⟩, ⟨[0,0,0,0,1,1,1,1], 4, [1,12,36,24], 4, 4⟩, ⟨[0,0,0,0,0,1,2], 5, [1,11,30,18], 3, 5⟩, ⟨[0,0,0,0,0,2], 6, [1,7,9], 2, 6⟩,
  ⟨[0,0,0,0,0,1,1], 6, [1,8,12], 2, 6⟩, ⟨[0,0,0,0,1], 7, [1,3], 1, 7⟩, ⟨[0,0,0,0,0,1,1,1], 5, [1,12,36,24], 3, 5⟩, ⟨[0,0,0,0,0,0,2], 6, [1,9,16], 2, 6⟩, ⟨[0,0,0,0,0,1], 7, [1,4], 1, 7⟩, ⟨[0,0,0,0,0,0,1,1], 6, [1,10,20], 2, 6⟩,
  ⟨[0,0,0,0,0,0,1], 7, [1,5], 1, 7⟩, ⟨[0,0,0,0,0,0,0,1], 7, [1,6], 1, 7⟩, ⟨[], 8, [1], 0, 8⟩
]
noncomputable def ix4 : List Nat := [0, 1, 2, 3, 4, 5, 6, 7, 8, 6, 9, 10, 11, 12, 13, 14]
noncomputable def iy4 : List Nat := [16, 18, 20, 22, 21, 25, 27, 29, 31, 27, 33, 35, 34, 38, 40, 42]
noncomputable def ix5 : List Nat := [15, 16, 17, 18, 19, 20, 21, 22, 23, 21, 24, 25, 26, 27, 28, 29, 30, 31, 26, 27, 32, 33, 34, 35, 36, 34, 37, 38, 39, 40, 41, 42]
noncomputable def iy5 : List Nat := [44, 46, 48, 50, 49, 53, 55, 57, 59, 55, 61, 63, 62, 66, 68, 70, 72, 56, 62, 66, 65, 76, 78, 80, 67, 78, 83, 85, 84, 88, 90, 92]
noncomputable def ix6 : List Nat := [43, 44, 45, 46, 47, 48, 49, 50, 51, 49, 52, 53, 54, 55, 56, 57, 58, 59, 54, 55, 60, 61, 62, 63, 64, 62, 65, 66, 67, 68, 69, 70, 71, 72, 73, 56, 64, 62, 65, 66, 74, 65, 75, 76, 77, 78, 79, 80, 81, 67, 77, 78, 82, 83, 84, 85, 86, 84, 87, 88, 89, 90, 91, 92]
noncomputable def iy6 : List Nat := [94, 96, 98, 100, 99, 103, 105, 107, 109, 105, 111, 113, 112, 116, 118, 120, 122, 106, 112, 116, 115, 126, 128, 130, 117, 128, 133, 135, 134, 138, 140, 142, 144, 146, 148, 118, 117, 128, 133, 135, 150, 133, 152, 154, 153, 157, 159, 161, 163, 134, 153, 157, 156, 166, 168, 170, 158, 168, 173, 175, 174, 178, 180, 182]
noncomputable def ix7 : List Nat := [93, 94, 95, 96, 97, 98, 99, 100, 101, 99, 102, 103, 104, 105, 106, 107, 108, 109, 104, 105, 110, 111, 112, 113, 114, 112, 115, 116, 117, 118, 119, 120, 121, 122, 123, 106, 114, 112, 115, 116, 124, 115, 125, 126, 127, 128, 129, 130, 131, 117, 127, 128, 132, 133, 134, 135, 136, 134, 137, 138, 139, 140, 141, 142, 143, 144, 145, 146, 147, 148, 117, 118, 131, 117, 127, 128, 132, 133, 134, 135, 149, 150, 132, 133, 151, 152, 153, 154, 155, 153, 156, 157, 158, 159, 160, 161, 162, 163, 136, 134, 155, 153, 156, 157, 164, 156, 165, 166, 167, 168, 169, 170, 171, 158, 167, 168, 172, 173, 174, 175, 176, 174, 177, 178, 179, 180, 181, 182]
noncomputable def iy7 : List Nat := [183, 184, 185, 186, 187, 188, 189, 190, 191, 189, 192, 193, 194, 195, 196, 197, 198, 199, 194, 195, 200, 201, 202, 203, 204, 202, 205, 206, 207, 208, 209, 210, 211, 212, 213, 196, 204, 202, 205, 206, 214, 205, 215, 216, 217, 218, 219, 220, 221, 207, 217, 218, 222, 223, 224, 225, 226, 224, 227, 228, 229, 230, 231, 232, 233, 234, 235, 236, 237, 238, 207, 208, 221, 207, 217, 218, 222, 223, 224, 225, 239, 240, 222, 223, 241, 242, 243, 244, 245, 243, 246, 247, 248, 249, 250, 251, 252, 253, 226, 224, 245, 243, 246, 247, 254, 246, 255, 256, 257, 258, 259, 260, 261, 248, 257, 258, 262, 263, 264, 265, 266, 264, 267, 268, 269, 270, 271, 272]
noncomputable def chkW (w : List Bool) (k : Nat) : Bool := match KT[k]? with
  | none => false
  | some cl => decide (countsB w = some cl.c) && (Nat.beq (w.filter id).length cl.T && (Nat.beq w.length (cl.T + cl.B) && (Nat.ble w.length 8 && (Nat.ble (rawB w).length 100 &&
    match wsGo (rawB w) 0 0 0 [] with
    | (bb, _, _, cnt) => Nat.beq bb cl.bb && decide (cnt = cl.cnt)))))
noncomputable def chkP (cl : Cls) : Bool := (List.range (cl.T + 1)).all fun p => match prodGo (cl.T : Nat) (p : Nat) cl.cnt 0 1, togM cl.c (cl.T : Nat) (p : Nat) with
  | some v, some u => decide (v = u)
  | _, _ => false
noncomputable def codeN (l : List Int) : Nat := l.foldl (fun a x => a * 1000 + (x.toNat + 1)) 0
noncomputable def noDup : List Nat → Bool
  | [] => true
  | a :: r => r.all (fun x => !Nat.beq a x) && noDup r
noncomputable def chunk {α : Type} (l : List α) (i : Nat) : List α := (l.drop (32 * i)).take 32
theorem all_chunks {α : Type} (p : α → Bool) : ∀ (m : Nat) (l : List α), l.length ≤ 32 * m → (∀ i, i < m → (chunk l i).all p = true) → l.all p = true
  | 0, l, h, _ => by
    have : l = [] := List.eq_nil_of_length_eq_zero (by omega)
    rw [this]; rfl
  | m + 1, l, h, hc => by
    have h0 := hc 0 (Nat.zero_lt_succ _)
    have ih := all_chunks p m (l.drop 32) (by rw [List.length_drop]; omega) (fun i hi => by
      have := hc (i + 1) (Nat.succ_lt_succ hi)
      unfold chunk at this ⊢
      rw [List.drop_drop]
      have e : 32 + 32 * i = 32 * (i + 1) := by omega
      rw [e]; exact this)
    have e : l = l.take 32 ++ l.drop 32 := (List.take_append_drop 32 l).symm
    rw [e, List.all_append, ih, Bool.and_true]
    exact h0
theorem w4 : ((wordsB 4).zip ix4).all (fun p => chkW p.1 p.2) = true := by decide +kernel
theorem w5 : ((wordsB 5).zip ix5).all (fun p => chkW p.1 p.2) = true := by decide +kernel
theorem w6 : ((wordsB 6).zip ix6).all (fun p => chkW p.1 p.2) = true := all_chunks _ 2 _ (by decide +kernel) (by
  intro i hi
  match i, hi with
  | 0, _ => decide +kernel
  | 1, _ => decide +kernel)
theorem w7 : ((wordsB 7).zip ix7).all (fun p => chkW p.1 p.2) = true := all_chunks _ 4 _ (by decide +kernel) (by
  intro i hi
  match i, hi with
  | 0, _ => decide +kernel
  | 1, _ => decide +kernel
  | 2, _ => decide +kernel
  | 3, _ => decide +kernel)
theorem y4 : ((wordsB 4).zip iy4).all (fun p => chkW (false :: p.1) p.2) = true := by decide +kernel
theorem y5 : ((wordsB 5).zip iy5).all (fun p => chkW (false :: p.1) p.2) = true := by decide +kernel
theorem y6 : ((wordsB 6).zip iy6).all (fun p => chkW (false :: p.1) p.2) = true := all_chunks _ 2 _ (by decide +kernel) (by
  intro i hi
  match i, hi with
  | 0, _ => decide +kernel
  | 1, _ => decide +kernel)
theorem y7 : ((wordsB 7).zip iy7).all (fun p => chkW (false :: p.1) p.2) = true := all_chunks _ 4 _ (by decide +kernel) (by
  intro i hi
  match i, hi with
  | 0, _ => decide +kernel
  | 1, _ => decide +kernel
  | 2, _ => decide +kernel
  | 3, _ => decide +kernel)
theorem kP : KT.all chkP = true := by decide +kernel
theorem kN : noDup (KT.map fun cl => codeN cl.cnt * 100 + cl.bb) = true := by decide +kernel
theorem kB : noDup (KT.map fun cl => (codeN cl.c * 100 + cl.T) * 100 + cl.B) = true := by decide +kernel
noncomputable def cutB (w : List Bool) (s e : Nat) : List Bool := (w.drop s).take (e - s)
noncomputable def twC (w : List Bool) (s m e : Nat) : Option (List Bool) :=
  match !eqB (cutB w s m) (cutB w m e) && (Nat.beq (cntB (cutB w s m) * 2) (m - s) && Nat.beq (cntB (cutB w m e) * 2) (e - m)) with
  | true => some (w.take s ++ (cutB w m e ++ (cutB w s m ++ w.drop e)))
  | false => none
noncomputable def rszN (a b : Nat) : Nat := match Nat.blt a b with | true => (b - a - 1) / 2 + 1 | false => 0
noncomputable def twE (w : List Bool) (s m : Nat) : Option (List Bool) := (List.range (rszN (m + 2) (w.length + 1))).findSome? fun i => twC w s m (m + 2 + i * 2)
noncomputable def twM (w : List Bool) (s : Nat) : Option (List Bool) := (List.range (rszN (s + 2) w.length)).findSome? fun i => twE w s (s + 2 + i * 2)
noncomputable def twO (w : List Bool) : Option (List Bool) := (List.range w.length).findSome? fun i => twM w i
noncomputable def twinB (w : List Bool) : List Bool := (twO w).getD w
theorem fs_congr {α β : Type} {p q : α → Option β} : ∀ (l : List α), (∀ i ∈ l, p i = q i) → l.findSome? p = l.findSome? q
  | [], _ => rfl
  | a :: l, h => by
    rw [List.findSome?_cons, List.findSome?_cons, h a (.head _), fs_congr l fun i hi => h i (.tail _ hi)]
theorem fs_map {α β γ : Type} (f : β → γ) (g : α → Option β) : ∀ (l : List α), l.findSome? (fun i => (g i).map f) = (l.findSome? g).map f
  | [] => rfl
  | a :: l => by
    rw [List.findSome?_cons, List.findSome?_cons, fs_map f g l]
    cases g a <;> rfl
theorem cut_len (w : List Bool) {s e : Nat} (h1 : s ≤ e) (h2 : e ≤ w.length) : (cutB w s e).length = e - s := by
  unfold cutB; rw [List.length_take, List.length_drop]; omega
theorem twC_S (w : List Bool) (s m e : Nat) (h1 : s ≤ m) (h2 : m ≤ e) (h3 : e ≤ w.length) : twinC (strB w) (s : Nat) (m : Nat) (e : Nat) = (twC w s m e).map strB := by
  have l1 := cut_len w h1 (Nat.le_trans h2 h3)
  have l2 := cut_len w h2 h3
  unfold twinC
  rw [slFT w s m h1 (by omega), slFT w m e h2 h3, slT w s (by omega), slF w e h3]
  show (if (strB (cutB w s m) != strB (cutB w m e)) = true then _ else _) = _
  unfold twC
  have c1 : (strB (cutB w s m) != strB (cutB w m e)) = !eqB (cutB w s m) (cutB w m e) := by
    rw [bne, ← eqB_dec]
    by_cases q : strB (cutB w s m) = strB (cutB w m e)
    · simp [q]
    · simp [q]
  have k1 : (Txt.count (strB (cutB w s m)) (Str.ofString "\t") * 2 == ((strB (cutB w s m)).length : Int)) = Nat.beq (cntB (cutB w s m) * 2) (m - s) := by
    rw [cnt_B, strB_length, l1, Bool.eq_iff_iff, beq_iff_eq, Nat.beq_eq]
    show _ ↔ cntB (cutB w s m) * 2 = m - s
    unfold cntB; omega
  have k2 : (Txt.count (strB (cutB w m e)) (Str.ofString "\t") * 2 == ((strB (cutB w m e)).length : Int)) = Nat.beq (cntB (cutB w m e) * 2) (e - m) := by
    rw [cnt_B, strB_length, l2, Bool.eq_iff_iff, beq_iff_eq, Nat.beq_eq]
    show _ ↔ cntB (cutB w m e) * 2 = e - m
    unfold cntB; omega
  have k1' : (Txt.count (strB ((w.drop s).take (m - s))) (Str.ofString "\t") * 2 == ((strB ((w.drop s).take (m - s))).length : Int)) = Nat.beq (cntB (cutB w s m) * 2) (m - s) := k1
  have k2' : (Txt.count (strB ((w.drop m).take (e - m))) (Str.ofString "\t") * 2 == ((strB ((w.drop m).take (e - m))).length : Int)) = Nat.beq (cntB (cutB w m e) * 2) (e - m) := k2
  rw [c1, k1', k2', strB_app, strB_app, strB_app]
  cases eqB (cutB w s m) (cutB w m e) <;> cases Nat.beq (cntB (cutB w s m) * 2) (m - s) <;> cases Nat.beq (cntB (cutB w m e) * 2) (e - m) <;> first | rfl | (simp [cutB])
theorem rsz_N (a b : Nat) : rsz (a : Int) (b : Int) = rszN a b := by
  unfold rsz rszN
  cases h : Nat.blt a b with
  | true =>
    have : a < b := Nat.lt_of_lt_of_le (Nat.lt_succ_self a) (Nat.le_of_ble_eq_true h)
    rw [if_pos (by omega)]
    show _ = (b - a - 1) / 2 + 1
    omega
  | false =>
    have : ¬ a < b := fun q => by
      have : Nat.blt a b = true := Nat.ble_eq_true_of_le q
      rw [this] at h; cases h
    rw [if_neg (by omega)]
theorem rszN_lt {a b i : Nat} (h : i < rszN a b) : a + i * 2 < b := by
  unfold rszN at h
  cases hb : Nat.blt a b with
  | true =>
    rw [hb] at h
    have : a < b := Nat.lt_of_lt_of_le (Nat.lt_succ_self a) (Nat.le_of_ble_eq_true hb)
    dsimp only at h
    omega
  | false => rw [hb] at h; dsimp only at h; omega
theorem twE_S (w : List Bool) (s m : Nat) (h1 : s ≤ m) : twinE (strB w) (s : Nat) (m : Nat) = (twE w s m).map strB := by
  unfold twinE twE
  rw [strB_length, show ((m : Nat) : Int) + 2 = ((m + 2 : Nat) : Int) by omega, show (w.length : Int) + 1 = ((w.length + 1 : Nat) : Int) by omega, rsz_N, ← fs_map]
  refine fs_congr _ fun i hi => ?_
  have := rszN_lt (List.mem_range.mp hi)
  rw [show ((m + 2 : Nat) : Int) + (i : Int) * 2 = ((m + 2 + i * 2 : Nat) : Int) by omega]
  exact twC_S w s m _ h1 (by omega) (by omega)
theorem twM_S (w : List Bool) (s : Nat) : twinMid (strB w) (s : Nat) = (twM w s).map strB := by
  unfold twinMid twM
  rw [strB_length, show ((s : Nat) : Int) + 2 = ((s + 2 : Nat) : Int) by omega, rsz_N, ← fs_map]
  refine fs_congr _ fun i hi => ?_
  rw [show ((s + 2 : Nat) : Int) + (i : Int) * 2 = ((s + 2 + i * 2 : Nat) : Int) by omega]
  exact twE_S w s _ (by omega)
theorem twin_S (w : List Bool) : twinM (strB w) = strB (twinB w) := by
  unfold twinM twinB
  have : twinO (strB w) = (twO w).map strB := by
    unfold twinO twO
    rw [strB_length, ← fs_map]
    refine fs_congr _ fun i hi => ?_
    rw [show (0 : Int) + (i : Int) * 1 = ((i : Nat) : Int) by omega]
    exact twM_S w i
  rw [this]
  cases twO w <;> rfl
noncomputable def chkT (w : List Bool) : Bool := Nat.beq (twinB w).length w.length && (eqB (twinB w) w || decide (countsB (twinB w) = countsB w))
theorem t4 : (wordsB 4).all chkT = true := by decide +kernel
theorem t5 : (wordsB 5).all chkT = true := by decide +kernel
theorem t6 : (wordsB 6).all chkT = true := all_chunks _ 2 _ (by decide +kernel) (by
  intro i hi
  match i, hi with
  | 0, _ => decide +kernel
  | 1, _ => decide +kernel)
theorem t7 : (wordsB 7).all chkT = true := all_chunks _ 4 _ (by decide +kernel) (by
  intro i hi
  match i, hi with
  | 0, _ => decide +kernel
  | 1, _ => decide +kernel
  | 2, _ => decide +kernel
  | 3, _ => decide +kernel)
noncomputable def cOf (k : Nat) : List Int := match KT[k]? with | some cl => cl.c | none => []
theorem z4 : (ix4.zip iy4).all (fun p => decide (cOf p.1 = cOf p.2)) = true := by decide +kernel
theorem z5 : (ix5.zip iy5).all (fun p => decide (cOf p.1 = cOf p.2)) = true := by decide +kernel
theorem z6 : (ix6.zip iy6).all (fun p => decide (cOf p.1 = cOf p.2)) = true := by decide +kernel
theorem z7 : (ix7.zip iy7).all (fun p => decide (cOf p.1 = cOf p.2)) = true := by decide +kernel
theorem zip3 (p1 p2 : List Bool × Nat → Bool) (p3 : Nat × Nat → Bool) : ∀ (l : List (List Bool)) (ix iy : List Nat), (l.zip ix).all p1 = true → (l.zip iy).all p2 = true → (ix.zip iy).all p3 = true → l.length = ix.length → l.length = iy.length →
    ∀ b ∈ l, ∃ k k', p1 (b, k) = true ∧ p2 (b, k') = true ∧ p3 (k, k') = true
  | [], _, _, _, _, _, _, _, _, hb => nomatch hb
  | a :: l, [], _, _, _, _, e, _, _, _ => nomatch e
  | a :: l, _ :: _, [], _, _, _, _, e, _, _ => nomatch e
  | a :: l, i :: ix, j :: iy, h1, h2, h3, e1, e2, b, hb => by
    rw [List.zip_cons_cons, List.all_cons, Bool.and_eq_true] at h1 h2 h3
    rcases List.mem_cons.mp hb with rfl | hb
    · exact ⟨i, j, h1.1, h2.1, h3.1⟩
    · exact zip3 p1 p2 p3 l ix iy h1.2 h2.2 h3.2 (Nat.succ.inj e1) (Nat.succ.inj e2) b hb
theorem len_words : ∀ {n : Nat}, (h : 4 ≤ n ∧ n ≤ 7) → ∀ b ∈ wordsB n, ∃ k k', chkW b k = true ∧ chkW (false :: b) k' = true ∧ cOf k = cOf k' := by
  intro n h b hb
  have key : ∀ (l : List (List Bool)) (ix iy : List Nat), (l.zip ix).all (fun p => chkW p.1 p.2) = true → (l.zip iy).all (fun p => chkW (false :: p.1) p.2) = true → (ix.zip iy).all (fun p => decide (cOf p.1 = cOf p.2)) = true → l.length = ix.length → l.length = iy.length →
      b ∈ l → ∃ k k', chkW b k = true ∧ chkW (false :: b) k' = true ∧ cOf k = cOf k' := by
    intro l ix iy h1 h2 h3 e1 e2 hb
    obtain ⟨k, k', a1, a2, a3⟩ := zip3 _ _ _ l ix iy h1 h2 h3 e1 e2 b hb
    exact ⟨k, k', a1, a2, of_decide_eq_true a3⟩
  have hn : n = 4 ∨ n = 5 ∨ n = 6 ∨ n = 7 := by omega
  rcases hn with rfl | rfl | rfl | rfl
  · exact key _ _ _ w4 y4 z4 (by decide +kernel) (by decide +kernel) hb
  · exact key _ _ _ w5 y5 z5 (by decide +kernel) (by decide +kernel) hb
  · exact key _ _ _ w6 y6 z6 (by decide +kernel) (by decide +kernel) hb
  · exact key _ _ _ w7 y7 z7 (by decide +kernel) (by decide +kernel) hb
theorem twin_words : ∀ {n : Nat}, (h : 4 ≤ n ∧ n ≤ 7) → ∀ b ∈ wordsB n, chkT b = true := by
  intro n h b hb
  have hn : n = 4 ∨ n = 5 ∨ n = 6 ∨ n = 7 := by omega
  rcases hn with rfl | rfl | rfl | rfl
  · exact List.all_eq_true.mp t4 b hb
  · exact List.all_eq_true.mp t5 b hb
  · exact List.all_eq_true.mp t6 b hb
  · exact List.all_eq_true.mp t7 b hb
structure Has (w : List Bool) (cl : Cls) : Prop where
  k : cl ∈ KT
  c : countsB w = some cl.c
  T : (w.filter id).length = cl.T
  B : w.length = cl.T + cl.B
  n : w.length ≤ 8
  l : ∃ raw, leadRaw (strB w) = some raw ∧ (wsM raw).1 = cl.bb ∧ (wsM raw).2.2.2 = cl.cnt
theorem has_of {w : List Bool} {k : Nat} (h : chkW w k = true) : ∃ cl, KT[k]? = some cl ∧ Has w cl := by
  unfold chkW at h
  split at h
  · cases h
  next cl hcl =>
  simp only [Bool.and_eq_true, decide_eq_true_eq] at h
  obtain ⟨h1, h2, h3, h4, h5, h6⟩ := h
  have h7 := Nat.eq_of_beq_eq_true h6.1
  have hl := lead_B w (Nat.le_trans (Nat.le_of_ble_eq_true h4) (by decide)) (Nat.le_of_ble_eq_true h5)
  exact ⟨cl, hcl, List.mem_of_getElem? hcl, h1, Nat.eq_of_beq_eq_true h2, Nat.eq_of_beq_eq_true h3, Nat.le_of_ble_eq_true h4, _, hl, by rw [wsM_L]; exact h7, by rw [wsM_L]; exact h6.2⟩
theorem Has.cM {w : List Bool} {cl : Cls} (H : Has w cl) : cM (strB w) = cl.c := by unfold Mine.cM; rw [(counts_S H.c).1]; rfl
theorem Has.TM {w : List Bool} {cl : Cls} (H : Has w cl) : TM (strB w) = (cl.T : Int) := by unfold Mine.TM; rw [(counts_S H.c).2, H.T]
theorem Has.w1 {w : List Bool} {cl : Cls} (H : Has w cl) : (wM (strB w)).1 = cl.bb := by
  obtain ⟨raw, h, h1, h2⟩ := H.l
  unfold wM; rw [h]; exact h1
theorem Has.w2 {w : List Bool} {cl : Cls} (H : Has w cl) : (wM (strB w)).2.2.2 = cl.cnt := by
  obtain ⟨raw, h, h1, h2⟩ := H.l
  unfold wM; rw [h]; exact h2
theorem Has.ok_p {w : List Bool} {cl : Cls} (H : Has w cl) : ptsOk (cl.T : Int) cl.cnt cl.c := by
  intro p hp
  have h1 := List.all_eq_true.mp kP cl H.k
  unfold chkP at h1
  have h2 := List.all_eq_true.mp h1 p (List.mem_range.mpr (by omega))
  cases e1 : prodGo (cl.T : Nat) (p : Nat) cl.cnt 0 1 with
  | none => rw [e1] at h2; cases h2
  | some v =>
    cases e2 : togM cl.c (cl.T : Nat) (p : Nat) with
    | none => rw [e1, e2] at h2; cases h2
    | some u =>
      rw [e1, e2] at h2
      have e := of_decide_eq_true h2
      exact ⟨v, rfl, by rw [e]⟩
theorem Has.ok {w : List Bool} {cl : Cls} (H : Has w cl) : WordOK (strB w) := by
  have hB := H.B
  have hn := H.n
  have hc := H.cM
  have hT := H.TM
  have h1 : (strB w).length ≤ 100 := by rw [strB_len]; omega
  have h2 : countsM (strB w) = some (Mine.cM (strB w)) := by rw [hc]; exact (counts_S H.c).1
  have h3 : ∃ raw, leadRaw (strB w) = some raw := let ⟨raw, h, _⟩ := H.l; ⟨raw, h⟩
  have h4 : 0 ≤ Mine.TM (strB w) ∧ Mine.TM (strB w) ≤ 100 := by rw [hT]; omega
  have h5 : ptsOk (Mine.TM (strB w)) (wM (strB w)).2.2.2 (Mine.cM (strB w)) := by rw [hT, H.w2, hc]; exact H.ok_p
  exact ⟨h1, h2, h3, h4, h5⟩
theorem noDup_inj {α : Type} (f : α → Nat) : ∀ (l : List α), noDup (l.map f) = true → ∀ a ∈ l, ∀ b ∈ l, f a = f b → a = b
  | [], _, _, ha, _, _, _ => nomatch ha
  | x :: l, h, a, ha, b, hb, e => by
    rw [List.map_cons] at h
    unfold noDup at h
    rw [Bool.and_eq_true, List.all_eq_true] at h
    have no : ∀ y ∈ l, f x ≠ f y := fun y hy q => by
      have := h.1 (f y) (List.mem_map_of_mem hy)
      rw [q, Nat.beq_refl] at this
      cases this
    rcases List.mem_cons.mp ha with ea | ha'
    · rcases List.mem_cons.mp hb with eb | hb'
      · rw [ea, eb]
      · exact absurd (ea ▸ e) (no b hb')
    · rcases List.mem_cons.mp hb with eb | hb'
      · exact absurd (eb ▸ e.symm) (no a ha')
      · exact noDup_inj f l h.2 a ha' b hb' e
theorem Has.pair {w w' : List Bool} {cl cl' : Cls} (H : Has w cl) (H' : Has w' cl') : PairOK (strB w) (strB w') := by
  unfold PairOK
  rw [H.w1, H.w2, H'.w1, H'.w2, H.cM, H'.cM, H.TM, H'.TM, strB_len, strB_len, H.B, H'.B]
  by_cases e : cl = cl'
  · subst e; simp
  · have h1 : ¬ (cl.cnt = cl'.cnt ∧ cl.bb = cl'.bb) := fun q => e (noDup_inj _ KT kN cl H.k cl' H'.k (by show codeN cl.cnt * 100 + cl.bb = codeN cl'.cnt * 100 + cl'.bb; rw [q.1, q.2]))
    have h2 : ¬ (cl.c = cl'.c ∧ cl.T = cl'.T ∧ cl.B = cl'.B) := fun q => e (noDup_inj _ KT kB cl H.k cl' H'.k (by show (codeN cl.c * 100 + cl.T) * 100 + cl.B = (codeN cl'.c * 100 + cl'.T) * 100 + cl'.B; rw [q.1, q.2.1, q.2.2]))
    have e1 : (decide (cl.cnt = cl'.cnt) && ((cl.bb : Int) == (cl'.bb : Int))) = false := by
      rw [Bool.eq_false_iff]
      intro q
      simp only [Bool.and_eq_true, decide_eq_true_eq, beq_iff_eq] at q
      exact h1 ⟨q.1, by omega⟩
    have e2 : (decide (cl.c = cl'.c) && ((cl.T : Int) == (cl'.T : Int) && ((((cl.T + cl.B : Nat) : Int) - (cl.T : Int)) == (((cl'.T + cl'.B : Nat) : Int) - (cl'.T : Int))))) = false := by
      rw [Bool.eq_false_iff]
      intro q
      simp only [Bool.and_eq_true, decide_eq_true_eq, beq_iff_eq] at q
      exact h2 ⟨q.1, by omega, by omega⟩
    rw [e1, e2]
noncomputable def fbB (ns : List Int) : List Bool := ((drawnM ns).take (mostM ns).toNat).map fun n => decide (n.fmod 2 = 0)
noncomputable def sbB (ns : List Int) : List Bool := ((drawnM ns).take (mostM ns).toNat).map fun n => decide ((n.fdiv 2).fmod 2 = 0)
theorem chr_ltr (n : Int) : chrL (n.fmod 2) = ltr (decide (n.fmod 2 = 0)) := by
  have h := fmod_two n
  have : n.fmod 2 = 0 ∨ n.fmod 2 = 1 := by omega
  rcases this with e | e <;> rw [e] <;> decide +kernel
theorem first_B (ns : List Int) : firstM ns = strB (fbB ns) := by
  rw [first_eq]
  unfold strB fbB
  rw [List.map_map]
  congr 2
  exact List.map_congr_left fun n _ => chr_ltr n
theorem second_B (ns : List Int) : secondM ns = strB (sbB ns) := by
  rw [second_eq]
  unfold strB sbB
  rw [List.map_map]
  congr 2
  exact List.map_congr_left fun n _ => chr_ltr (n.fdiv 2)
theorem twin_eq (ns : List Int) (x : Str) (h : twinM (firstM ns) = x) : twinW ns = Txt.mul (Str.ofString " ") (((drawnM ns).sum.fdiv 4).fmod 2) ++ x := by
  unfold twinW; rw [h]
theorem mul_zero : Txt.mul (Str.ofString " ") 0 = ⟨#[]⟩ := by decide +kernel
theorem mul_one : Txt.mul (Str.ofString " ") 1 = ⟨#[32]⟩ := by decide +kernel
theorem app_nil (x : Str) : (⟨#[]⟩ : Str) ++ x = x := by
  show Str.mk (#[] ++ x.cps) = x
  rw [Array.empty_append]
theorem app_sp (t : List Bool) : (⟨#[32]⟩ : Str) ++ strB t = strB (false :: t) := by
  show Str.mk (#[32] ++ _) = Str.mk _
  refine congrArg Str.mk ?_
  apply Array.ext'
  simp [strB, ltr]
theorem twin_B0 (ns : List Int) (e : ((drawnM ns).sum.fdiv 4).fmod 2 = 0) {t : List Bool} (h : twinM (strB (fbB ns)) = strB t) : twinW ns = strB t := by
  rw [← first_B] at h
  rw [twin_eq ns _ h, e, mul_zero, app_nil]
theorem twin_B1 (ns : List Int) (e : ((drawnM ns).sum.fdiv 4).fmod 2 = 1) {t : List Bool} (h : twinM (strB (fbB ns)) = strB t) : twinW ns = strB (false :: t) := by
  rw [← first_B] at h
  rw [twin_eq ns _ h, e, mul_one, app_sp]
theorem drawn_len (ns : List Int) : (drawnM ns).length = 7 := by
  unfold drawnM spareM; simp; omega
theorem plain_all (ns : List Int) : PlainOK ns := by
  have hm := most_le ns
  have hd := drawn_len ns
  have n47 : 4 ≤ (mostM ns).toNat ∧ (mostM ns).toNat ≤ 7 := by omega
  have l1 : (fbB ns).length = (mostM ns).toNat := by unfold fbB; rw [List.length_map, List.length_take, hd]; omega
  have l2 : (sbB ns).length = (mostM ns).toNat := by unfold sbB; rw [List.length_map, List.length_take, hd]; omega
  have m1 : fbB ns ∈ wordsB (mostM ns).toNat := l1 ▸ mem_wordsB _
  have m2 : sbB ns ∈ wordsB (mostM ns).toNat := l2 ▸ mem_wordsB _
  have ht := twin_words n47 _ m1
  unfold chkT at ht
  simp only [Bool.and_eq_true, Bool.or_eq_true, decide_eq_true_eq] at ht
  obtain ⟨t2, t3⟩ := ht
  have t1 := twin_S (fbB ns)
  have t2' := Nat.eq_of_beq_eq_true t2
  have m3 : twinB (fbB ns) ∈ wordsB (mostM ns).toNat := by rw [← l1, ← t2']; exact mem_wordsB _
  have t3' : countsB (twinB (fbB ns)) = countsB (fbB ns) := by
    rcases t3 with h | h
    · rw [eqB_iff.mp h]
    · exact h
  obtain ⟨k1, _, w1, _, _⟩ := len_words n47 _ m1
  obtain ⟨k2, _, w2, _, _⟩ := len_words n47 _ m2
  obtain ⟨k3, k4, w3, w4, w5⟩ := len_words n47 _ m3
  obtain ⟨c1, e1, H1⟩ := has_of w1
  obtain ⟨c2, e2, H2⟩ := has_of w2
  obtain ⟨c3, e3, H3⟩ := has_of w3
  obtain ⟨c4, e4, H4⟩ := has_of w4
  have e34 : c3.c = c4.c := by unfold cOf at w5; rw [e3, e4] at w5; exact w5
  have e13 : c1.c = c3.c := by
    have := H1.c; rw [← t3', H3.c] at this; exact (Option.some.inj this).symm
  have hbit := fmod_two ((drawnM ns).sum.fdiv 4)
  have hbit' : ((drawnM ns).sum.fdiv 4).fmod 2 = 0 ∨ ((drawnM ns).sum.fdiv 4).fmod 2 = 1 := by omega
  have key : ∃ tw ct, twinW ns = strB tw ∧ Has tw ct ∧ c1.c = ct.c :=
    hbit'.elim (fun e => ⟨_, c3, twin_B0 ns e t1, H3, e13⟩) (fun e => ⟨_, c4, twin_B1 ns e t1, H4, e13.trans e34⟩)
  obtain ⟨tw, ct, et, Ht, ec⟩ := key
  have all : ∀ x ∈ [firstM ns, twinW ns, secondM ns], ∃ w cl, x = strB w ∧ Has w cl := by
    intro x hx
    simp only [List.mem_cons, List.not_mem_nil, or_false] at hx
    rcases hx with rfl | rfl | rfl
    · exact ⟨_, _, first_B ns, H1⟩
    · exact ⟨_, _, et, Ht⟩
    · exact ⟨_, _, second_B ns, H2⟩
  refine ⟨fun x hx => ?_, fun x hx y hy => ?_, ?_⟩
  · obtain ⟨w, cl, rfl, H⟩ := all x hx
    exact H.ok
  · obtain ⟨w, cl, rfl, H⟩ := all x hx
    obtain ⟨w', cl', rfl, H'⟩ := all y hy
    exact H.pair H'
  · rw [first_B, et, H1.cM, Ht.cM]; exact ec
end Mine
theorem PySem.Challenge.cw_rl0080_01_holds : PySem.Challenge.rw_rl0080_01.Holds := by
  exact Mine.law0 Mine.plain_all
