import PyProof.Rows.All
import Wide.All
import OpenK.AllK
import Wide.FinOn
import KE.BitLaws
import PySem.Challenge.RW_rs0184_01
set_option Elab.async false
local macro_rules | `(tactic| walk_at "mem") => `(tactic| first | exact List.Mem.head _ | (refine List.Mem.tail _ ?_; walk_at "mem"))
/-! text B0 -/
section
open PySem PySem.W PyProof.Rows PySem.Spec PySem.Calls
set_option maxRecDepth 100000
set_option linter.unusedVariables false
namespace Mine
noncomputable abbrev pw := PySem.Challenge.pw_rs0184_01
noncomputable def pst (i : Nat) : Stmt := pw.main.body.getD i (.Pass ⟨0, 0, 0, 0⟩)
noncomputable def fbody : Stmt → List Stmt
  | .FunctionDef _ _ b _ _ _ _ _ _ _ => b
  | _ => []
noncomputable def fargs : Stmt → Arguments
  | .FunctionDef _ a _ _ _ _ _ _ _ _ => a
  | _ => ⟨[], [], none, [], [], none, []⟩
noncomputable def fscope : Stmt → Scope
  | .FunctionDef _ _ _ _ _ _ sc _ _ _ => sc
  | _ => default
noncomputable def fname : Stmt → Str
  | .FunctionDef n _ _ _ _ _ _ _ _ _ => n
  | _ => Str.empty
noncomputable def mkFd (st : Stmt) (dV kV pm cd : Value) : FuncData :=
  { name := fname st, qualname := fname st, params := fargs st, body := .stmts (fbody st), scope := fscope st, globals := mainGlobals, closure := [],
    defaults := dV, kwdefaults := kV, pyModule := pm, code := cd, builtins := builtinsNs }
noncomputable def mkFn (st : Stmt) (dV kV pm cd : Value) : Obj := { cls := .type "function", data := .func (mkFd st dV kV pm cd) }

/-! the state: a base heap that stands, a ledger of what is known -/
noncomputable abbrev PO := Obj → Prop
noncomputable abbrev Led := List (Addr × PO)
noncomputable def nsP (m : Str → Option Value) : PO := fun o => ∃ es ep, o.data = .dict es ep ∧ StrKeys es ∧ ∀ name, nsFind es name = m name
noncomputable def cellP (v : Option Value) : PO := fun o => o.data = .cell v
noncomputable def listP (vs : List Value) : PO := fun o => ∃ n, o = { cls := .type "list", data := .seq vs.toArray n }
noncomputable def liP (l : Addr) (i : Nat) : PO := fun o => o.cls = .type "list_iterator" ∧ o.data = .fields #[.ref l, .int i 0]
noncomputable def riP (x left step : Int) : PO := fun o => o = { cls := .type "range_iterator", dict := none, data := .fields #[rawInt x, rawInt left, rawInt step], slots := #[] }
noncomputable def anyP : PO := fun _ => True
/-- what stands for good: the heap behind the top (its two code tables hidden), and the codes that the tables hold by now -/
structure Gd where
  base : Heap
  c1 : Option Addr
  c2 : Option Addr
noncomputable def psOf (ln co : Nat) : Option Addr → Array Value
  | none => #[]
  | some c => #[rawInt ln, rawInt co, .ref c]
/-- a code table that holds the nested def's code or nothing yet -/
structure TabOk (P : Addr) (ln co : Nat) (q : Str) (h : Heap) (as : List Addr) (o : Option Addr) : Prop where
  at_ : h.get? P = some { cls := .none, data := .fields (psOf ln co o) }
  code : ∀ c, o = some c → c ∉ as ∧ c ≠ P ∧ c ≠ 16 ∧ c ≠ 23 ∧ h.CodeRec (.ref c) q
noncomputable def q1 : Str := Str.ofString "_int2digits.<locals>.inner"
noncomputable def q2 : Str := Str.ofString "_digits2int.<locals>.inner"
structure St (h₀ : Gd) (h : Heap) (H : Led) : Prop where
  keep : ∀ b o, h₀.base.get? b = some o → h.get? b = some o
  led : ∀ p ∈ H, ∃ o, h.get? p.1 = some o ∧ p.2 o
  nodup : (H.map (·.1)).Nodup
  off : ∀ p ∈ H, h₀.base.get? p.1 = none ∧ p.1 ≠ 16 ∧ p.1 ≠ 23
  t1 : TabOk 16 5 4 q1 h (H.map (·.1)) h₀.c1
  t2 : TabOk 23 20 4 q2 h (H.map (·.1)) h₀.c2
  o1 : h₀.base.get? 16 = none
  o2 : h₀.base.get? 23 = none

theorem TabOk.sub {P : Addr} {ln co : Nat} {q : Str} {h : Heap} {as bs : List Addr} {o : Option Addr} (x : TabOk P ln co q h as o) (hs : ∀ a ∈ bs, a ∈ as) : TabOk P ln co q h bs o :=
  ⟨x.at_, fun c e => ⟨fun hc => (x.code c e).1 (hs _ hc), (x.code c e).2⟩⟩
theorem TabOk.grow {P : Addr} {ln co : Nat} {q : Str} {h g : Heap} {as bs : List Addr} {o : Option Addr} (x : TabOk P ln co q h as o) (hk : ∀ b o, h.get? b = some o → g.get? b = some o) (hb : ∀ b ∈ bs, h.objs.size ≤ b) : TabOk P ln co q g (bs ++ as) o := by
  refine ⟨hk _ _ x.at_, fun c e => ?_⟩
  obtain ⟨e2, e3, e4, e5, e6⟩ := x.code c e
  refine ⟨fun hc => ?_, e3, e4, e5, e6.keeps hk⟩
  rcases List.mem_append.mp hc with hc | hc
  · obtain ⟨c', o', vs, t, e7, e8, _⟩ := e6
    cases e7
    exact absurd (Heap.lt_size e8) (Nat.not_lt.mpr (hb _ hc))
  · exact e2 hc
theorem TabOk.ext {P : Addr} {ln co : Nat} {q : Str} {h h' : Heap} {as : List Addr} {a : Addr} {o : Option Addr} (x : TabOk P ln co q h as o) (hs : Heap.ExtBut a h h') (ha : a ∈ as) (hP : P ≠ a) : TabOk P ln co q h' as o := by
  refine ⟨hs _ _ hP x.at_, fun c e => ?_⟩
  obtain ⟨e2, e3, e4, e5, c', o', vs, t, e7, e8, e9⟩ := x.code c e
  refine ⟨e2, e3, e4, e5, c', o', vs, t, e7, hs _ _ ?_ e8, e9⟩
  cases e7
  rintro rfl
  exact e2 ha
theorem St.drop {h₀ : Gd} {h : Heap} {p : Addr × PO} {H : Led} (S : St h₀ h (p :: H)) : St h₀ h H :=
  ⟨S.keep, fun q hq => S.led q (.tail _ hq), (List.nodup_cons.mp S.nodup).2, fun q hq => S.off q (.tail _ hq), S.t1.sub fun a ha => .tail _ ha, S.t2.sub fun a ha => .tail _ ha, S.o1, S.o2⟩
theorem St.sub {h₀ : Gd} {h : Heap} {H H' : Led} (S : St h₀ h H) (hs : List.Sublist H' H) : St h₀ h H' :=
  ⟨S.keep, fun q hq => S.led q (hs.subset hq), (hs.map _).nodup S.nodup, fun q hq => S.off q (hs.subset hq), S.t1.sub fun a ha => (hs.map _).subset ha, S.t2.sub fun a ha => (hs.map _).subset ha, S.o1, S.o2⟩
theorem St.weak {h₀ : Gd} {h : Heap} {a : Addr} {P P' : PO} {H : Led} (S : St h₀ h ((a, P) :: H)) (hp : ∀ o, P o → P' o) : St h₀ h ((a, P') :: H) := by
  refine ⟨S.keep, fun q hq => ?_, S.nodup, fun q hq => ?_, S.t1, S.t2, S.o1, S.o2⟩
  · rcases List.mem_cons.mp hq with rfl | hq
    · obtain ⟨o, e, r⟩ := S.led _ (.head _)
      exact ⟨o, e, hp _ r⟩
    · exact S.led q (.tail _ hq)
  · rcases List.mem_cons.mp hq with rfl | hq
    · exact S.off (a, P) (.head _)
    · exact S.off q (.tail _ hq)

theorem St.grow {h₀ : Gd} {h g : Heap} {H new : Led} (S : St h₀ h H) (hk : ∀ b o, h.get? b = some o → g.get? b = some o) (hn : ∀ p ∈ new, h.objs.size ≤ p.1 ∧ ∃ o, g.get? p.1 = some o ∧ p.2 o) (hd : (new.map (·.1)).Nodup) : St h₀ g (new ++ H) := by
  have hlt : ∀ b o', h.get? b = some o' → b < h.objs.size := fun b o' e => Heap.lt_size e
  have hge : ∀ b ∈ new.map (·.1), h.objs.size ≤ b := fun b hb => by
    obtain ⟨p, hp, rfl⟩ := List.mem_map.mp hb
    exact (hn p hp).1
  refine ⟨fun b o' e => hk b o' (S.keep b o' e), fun q hq => ?_, ?_, fun q hq => ?_, ?_, ?_, S.o1, S.o2⟩
  · rcases List.mem_append.mp hq with hq | hq
    · exact (hn q hq).2
    · obtain ⟨o', e, r⟩ := S.led q hq
      exact ⟨o', hk _ _ e, r⟩
  · rw [List.map_append, List.nodup_append]
    refine ⟨hd, S.nodup, fun a ha b hb e => ?_⟩
    subst e
    obtain ⟨p, hp, rfl⟩ := List.mem_map.mp hb
    obtain ⟨o', e', _⟩ := S.led p hp
    exact absurd (hlt _ _ e') (Nat.not_lt.mpr (hge _ ha))
  · rcases List.mem_append.mp hq with hq | hq
    · have e1 := S.t1.at_
      have e2 := S.t2.at_
      have hl := (hn q hq).1
      refine ⟨?_, fun e => absurd (hlt _ _ e1) (Nat.not_lt.mpr (e ▸ hl)), fun e => absurd (hlt _ _ e2) (Nat.not_lt.mpr (e ▸ hl))⟩
      cases e : h₀.base.get? q.1 with
      | none => rfl
      | some o' => exact absurd (hlt _ _ (S.keep _ _ e)) (Nat.not_lt.mpr hl)
    · exact S.off q hq
  · rw [List.map_append]; exact S.t1.grow hk hge
  · rw [List.map_append]; exact S.t2.grow hk hge
theorem St.push {h₀ : Gd} {h : Heap} {H : Led} (S : St h₀ h H) (o : Obj) (P : PO) (hP : P o) (hf : o.isFreed = false := by rfl) : St h₀ (h.push o) ((h.objs.size, P) :: H) :=
  S.grow (new := [(h.objs.size, P)]) (fun _ _ e => Heap.get?_push_of_some _ e) (fun p hp => by rw [List.mem_singleton.mp hp]; exact ⟨Nat.le_refl _, o, Heap.get?_push_size _ hf, hP⟩) (List.pairwise_singleton ..)
/-- one entry changed -/
inductive Up (a : Addr) (P P' : PO) : Led → Led → Prop
  | head {H : Led} : Up a P P' ((a, P) :: H) ((a, P') :: H)
  | tail {x : Addr × PO} {H H' : Led} : Up a P P' H H' → Up a P P' (x :: H) (x :: H')
theorem Up.adr {a : Addr} {P P' : PO} {H H' : Led} (u : Up a P P' H H') : H'.map (·.1) = H.map (·.1) := by
  induction u with
  | head => rfl
  | tail _ ih => rw [List.map_cons, List.map_cons, ih]
theorem Up.mem {a : Addr} {P P' : PO} {H H' : Led} (u : Up a P P' H H') : (a, P) ∈ H := by
  induction u with
  | head => exact .head _
  | tail _ ih => exact .tail _ ih
theorem Up.split {a : Addr} {P P' : PO} {H H' : Led} (u : Up a P P' H H') (hn : (H.map (·.1)).Nodup) : ∀ p ∈ H', p = (a, P') ∨ (p ∈ H ∧ p.1 ≠ a) := by
  induction u with
  | head =>
    intro p hp
    rcases List.mem_cons.mp hp with rfl | hp
    · exact .inl rfl
    · refine .inr ⟨.tail _ hp, fun e => ?_⟩
      refine (List.nodup_cons.mp hn).1 ?_
      show a ∈ _
      rw [← e]
      exact List.mem_map_of_mem hp
  | tail u ih =>
    rename_i x H H'
    intro p hp
    obtain ⟨h1, h2⟩ := List.nodup_cons.mp hn
    rcases List.mem_cons.mp hp with rfl | hp
    · refine .inr ⟨.head _, fun e => ?_⟩
      refine h1 ?_
      show p.1 ∈ _
      rw [e]
      exact List.mem_map_of_mem u.mem
    · rcases ih h2 p hp with h | ⟨h, h'⟩
      · exact .inl h
      · exact .inr ⟨.tail _ h, h'⟩
theorem St.upE {h₀ : Gd} {h h' : Heap} {H H' : Led} {a : Addr} {P P' : PO} (S : St h₀ h H) (u : Up a P P' H H') (hs : Heap.ExtBut a h h') (hP : ∃ o, h'.get? a = some o ∧ P' o) : St h₀ h' H' := by
  have hoff := S.off _ u.mem
  have hmem : a ∈ H.map (·.1) := List.mem_map_of_mem u.mem
  refine ⟨fun b o e => hs b o ?_ (S.keep b o e), fun q hq => ?_, u.adr ▸ S.nodup, fun q hq => ?_, u.adr ▸ S.t1.ext hs hmem (Ne.symm hoff.2.1), u.adr ▸ S.t2.ext hs hmem (Ne.symm hoff.2.2), S.o1, S.o2⟩
  · rintro rfl
    rw [hoff.1] at e; cases e
  · rcases u.split S.nodup q hq with rfl | ⟨h1, h2⟩
    · exact hP
    · obtain ⟨o, e, r⟩ := S.led q h1
      exact ⟨o, hs _ _ h2 e, r⟩
  · rcases u.split S.nodup q hq with rfl | ⟨h1, _⟩
    · exact hoff
    · exact S.off q h1
theorem St.up {h₀ : Gd} {h h' : Heap} {H H' : Led} {a : Addr} {P P' : PO} (S : St h₀ h H) (u : Up a P P' H H') (hs : Heap.SameBut a h h') (hP : ∃ o, h'.get? a = some o ∧ P' o) : St h₀ h' H' := S.upE u hs.extBut hP
theorem St.ns {h₀ : Gd} {h : Heap} {H : Led} {a : Addr} {m : Str → Option Value} (S : St h₀ h H) (hm : (a, nsP m) ∈ H) : h.Ns a m := by
  obtain ⟨o, e, es, ep, h1, h2, h3⟩ := S.led _ hm
  exact ⟨o, es, ep, e, h1, h2, h3⟩
theorem St.cell {h₀ : Gd} {h : Heap} {H : Led} {a : Addr} {v : Option Value} (S : St h₀ h H) (hm : (a, cellP v) ∈ H) : h.IsCell a v := by
  obtain ⟨o, e, h1⟩ := S.led _ hm
  exact ⟨o, e, h1⟩
theorem St.plist {h₀ : Gd} {h : Heap} {H : Led} {a : Addr} {vs : List Value} (S : St h₀ h H) (hm : (a, listP vs) ∈ H) : h.PlainList a vs.toArray := by
  obtain ⟨o, e, n, h1⟩ := S.led _ hm
  exact ⟨n, h1 ▸ e⟩
theorem nsP_of {h : Heap} {a : Addr} {m : Str → Option Value} (x : h.Ns a m) : ∃ o, h.get? a = some o ∧ nsP m o := let ⟨o, es, ep, e, h1, h2, h3⟩ := x; ⟨o, e, es, ep, h1, h2, h3⟩
theorem cellP_of {h : Heap} {a : Addr} {v : Option Value} (x : h.IsCell a v) : ∃ o, h.get? a = some o ∧ cellP v o := x
end Mine
end
/-! text B1 -/
section
open PySem PySem.W PyProof.Rows PySem.Spec PySem.Calls
set_option maxRecDepth 100000
set_option linter.unusedVariables false
namespace Mine

/-! what the top has left -/
noncomputable def globs : List (Str × Option Value) :=
  [("_int2digits", some (.ref 21)), ("_digits2int", some (.ref 28)), ("bisect_left", some (.ref 37)), ("b1_set", some (.ref 45)), ("in_table_b1", some (.ref 55)),
   ("b3_exceptions", some (.ref 56)), ("map_table_b3", some (.ref 101)), ("_law_sign", some (.ref 106)), ("_law_prepared", some (.ref 111)),
   ("__builtins__", some (.ref 4)), ("len", none), ("ord", none), ("chr", none), ("range", none), ("abs", none), ("sum", none), ("list", none), ("max", none), ("min", none)]
/-- the 27 signs of table B.1 -/
noncomputable def b1list : List Int := [173, 847, 6150, 6155, 6156, 6157, 8203, 8204, 8205, 8288, 65279, 65024, 65025, 65026, 65027, 65028, 65029, 65030, 65031, 65032, 65033, 65034, 65035, 65036, 65037, 65038, 65039]
/-- the pairs of the table b3_exceptions, out of the text -/
noncomputable def dpairs : List (Option PySem.Expr) → List PySem.Expr → List (Int × Str)
  | some (.Constant (.int k) _ _) :: ks, .Constant (.str v) _ _ :: vs => (k, v) :: dpairs ks vs
  | _, _ => []
noncomputable def b3list : List (Int × Str) := match pst 8 with
  | .Assign _ (.Dict ks vs _) _ => dpairs ks vs
  | _ => []
noncomputable def b3look (k : Int) : Option Str := (b3list.find? fun p => p.1 = k).map (·.2)

structure Bs0 (w : World) (h₀ : Heap) : Prop where
  g : ∃ mg, h₀.Ns mainGlobals mg ∧ ∀ p ∈ globs, mg p.1 = p.2
  b : ∃ mb, h₀.Ns builtinsNs mb ∧ ∀ x : Str, x ≠ "__name__" → mb x = bootBuiltins x
  lim : h₀.NoLimit
  b4 : h₀.get? 4 = some { cls := .type "module", dict := some 0, data := .plain }
  k20 : CodeHd h₀ 20 16
  k27 : CodeHd h₀ 27 23
  f21 : ∃ pm, h₀.get? 21 = some (mkFn (pst 1) .none .none pm (.ref 20))
  f28 : ∃ pm, h₀.get? 28 = some (mkFn (pst 2) .none .none pm (.ref 27))
  f37 : ∃ pm, h₀.get? 37 = some (mkFn (pst 4) (.ref 29) (.ref 30) pm (.ref 36))
  f55 : ∃ pm, h₀.get? 55 = some (mkFn (pst 7) .none .none pm (.ref 54))
  f101 : ∃ pm, h₀.get? 101 = some (mkFn (pst 9) .none .none pm (.ref 100))
  f106 : ∃ pm, h₀.get? 106 = some (mkFn (pst 11) .none .none pm (.ref 105))
  f111 : ∃ pm, h₀.get? 111 = some (mkFn (pst 12) .none .none pm (.ref 110))
  f116 : ∃ pm, h₀.get? 116 = some (mkFn (pst 13) .none .none pm (.ref 115))
  d29 : ∃ t n, h₀.get? 29 = some { cls := .type "tuple", data := .seq #[.int 0 t, .none] n }
  d30 : ∃ hs t n, h₀.get? 30 = some { cls := .type "dict", data := .dict #[⟨hs, .str "key" t, .none⟩] n }
  c20 : h₀.CodeRec (.ref 20) "_int2digits"
  c27 : h₀.CodeRec (.ref 27) "_digits2int"
  c36 : h₀.CodeRec (.ref 36) "bisect_left"
  c54 : h₀.CodeRec (.ref 54) "in_table_b1"
  c100 : h₀.CodeRec (.ref 100) "map_table_b3"
  c105 : h₀.CodeRec (.ref 105) "_law_sign"
  c110 : h₀.CodeRec (.ref 110) "_law_prepared"
  c115 : h₀.CodeRec (.ref 115) "law"
  s45 : h₀.SetOf (intKind pw w) 45 (fun k => decide (k ∈ b1list)) 27
  d56 : ∃ f, h₀.MapOf (intKind pw w) 56 f ∧ ∀ k, match b3look k with | none => f k = none | some v => ∃ t, f k = some (.str v t)

noncomputable abbrev Bs (w : World) (h₀ : Gd) : Prop := Bs0 w h₀.base
section
variable {w : World} {A : Around} {E : Value → Shared → Prop} {s : Shared} {h₀ : Gd} {H : Led} {env : Env}

theorem ev_loc {x : Str} {pos : Pos} {m : Str → Option Value} {v : Value} {Q : Value → Shared → Prop} (S : St h₀ s.heap H) (hm : (env.locals, nsP m) ∈ H) (hv : m x = some v) (h : Q v s)
    (hk : env.scope.kind = .function := by rfl) (hx : env.kindOf x = some .local := by rfl) (hd : (x == ("__debug__" : Str)) = false := by decide) :
    wpAny (model pw w) A (eval (.Name x pos) env) Q E s := wpAny_Name (wpAny_loadName_local hk hx (S.ns hm) hv h) hd
theorem ev_cel {x : Str} {pos : Pos} {c : Addr} {v : Value} {Q : Value → Shared → Prop} (S : St h₀ s.heap H) (hm : (c, cellP (some v)) ∈ H) (hc : env.cells.lookup x = some c) (h : Q v s)
    (hk : env.scope.kind = .function := by rfl) (hx : env.kindOf x = some .cell := by rfl) (hd : (x == ("__debug__" : Str)) = false := by decide) :
    wpAny (model pw w) A (eval (.Name x pos) env) Q E s := wpAny_Name (wpAny_loadName_cell hk hx hc (S.cell hm) h) hd
theorem ev_fre {x : Str} {pos : Pos} {c : Addr} {v : Value} {Q : Value → Shared → Prop} (S : St h₀ s.heap H) (hm : (c, cellP (some v)) ∈ H) (hc : env.cells.lookup x = some c) (h : Q v s)
    (hk : env.scope.kind = .function := by rfl) (hx : env.kindOf x = some .free := by rfl) (hd : (x == ("__debug__" : Str)) = false := by decide) (hn : (x == ("__classdict__" : Str)) = false := by decide) :
    wpAny (model pw w) A (eval (.Name x pos) env) Q E s := wpAny_Name (wpAny_loadName_free hk hx hc (S.cell hm) h hn) hd
theorem ev_glo {x : Str} {pos : Pos} {v : Value} {Q : Value → Shared → Prop} (B : Bs w h₀) (S : St h₀ s.heap H) (hv : (x, some v) ∈ globs) (h : Q v s)
    (hk : env.scope.kind = .function := by rfl) (hx : env.kindOf x = some .globalImplicit := by rfl) (hg : env.globals = mainGlobals := by rfl) (hd : (x == ("__debug__" : Str)) = false := by decide) :
    wpAny (model pw w) A (eval (.Name x pos) env) Q E s := by
  obtain ⟨mg, h1, h2⟩ := B.g
  exact Name_function_global hk hx (loadGlobal_global (hg ▸ h1.keeps S.keep) (h2 _ hv) h) hd
theorem ev_blt {x : Str} {pos : Pos} {v : Value} {Q : Value → Shared → Prop} (B : Bs w h₀) (S : St h₀ s.heap H) (hv : (x, none) ∈ globs) (hb : bootBuiltins x = some v) (h : Q v s)
    (hk : env.scope.kind = .function := by rfl) (hx : env.kindOf x = some .globalImplicit := by rfl) (hg : env.globals = mainGlobals := by rfl) (hb' : env.builtins = builtinsNs := by rfl) (hn : x ≠ "__name__" := by decide) (hd : (x == ("__debug__" : Str)) = false := by decide) :
    wpAny (model pw w) A (eval (.Name x pos) env) Q E s := by
  obtain ⟨mg, h1, h2⟩ := B.g
  obtain ⟨mb, h3, h4⟩ := B.b
  exact Name_function_global hk hx (loadGlobal_builtin (hg ▸ h1.keeps S.keep) (h2 _ hv) (hb' ▸ h3.keeps S.keep) ((h4 x hn).trans hb) h) hd

theorem st_loc {x : Str} {m : Str → Option Value} {v : Value} {Q : Unit → Shared → Prop} {H' : Led} (S : St h₀ s.heap H) (u : Up env.locals (nsP m) (nsP fun y => if y = x then some v else m y) H H')
    (h : ∀ h' tk, St h₀ h' H' → Q () { s with heap := h', toks := tk })
    (hk : env.scope.kind = .function := by rfl) (hx : env.kindOf x = some .local := by rfl) :
    wpAny (model pw w) A (storeName env x v) Q E s :=
  wpAny_storeName_local hx (S.ns u.mem) (fun h' hn hs => h h' _ (S.up u hs (nsP_of hn))) (by rw [hk]; rfl)
theorem st_cel {x : Str} {c : Addr} {v₀ : Option Value} {v : Value} {Q : Unit → Shared → Prop} {H' : Led} (S : St h₀ s.heap H) (hc : env.cells.lookup x = some c) (u : Up c (cellP v₀) (cellP (some v)) H H')
    (h : ∀ h' tk, St h₀ h' H' → Q () { s with heap := h', toks := tk })
    (hk : env.scope.kind = .function := by rfl) (hx : env.kindOf x = some .cell := by rfl) :
    wpAny (model pw w) A (storeName env x v) Q E s :=
  wpAny_storeName_cell hk hx hc (S.cell u.mem) fun h' hv hs => h h' _ (S.up u hs (cellP_of hv))

/-- a call of a plain def of the top's: its frame is one new entry -/
theorem call_fn {a : Addr} {fd : FuncData} {o : Obj} {body : List Stmt} {args : Args} {binds : List (Str × Value)} {Q : Value → Shared → Prop} (B : Bs w h₀) (S : St h₀ s.heap H)
    (hroom : A.depth < recursionLimit) (ho : s.heap.get? a = some o) (hd : o.data = .func fd) (hcd : s.heap.CodeRec fd.code fd.qualname) (hbody : fd.body = .stmts body) (hbind : BindsTo s fd args binds)
    (k : ∀ L h' tk, L = s.heap.objs.size → St h₀ h' ((L, nsP fun x => binds.reverse.lookup x) :: H) →
      wpAny (model pw w) (A.deeper (callEnv fd L a)) (execs body (callEnv fd L a)) (fun f s' => Q (match f with | .ret v => v | _ => .none) s') (fun _ _ => False) { s with heap := h', toks := tk })
    (hcell : (fd.scope.names.all fun x => decide (x.2 ≠ .cell)) = true := by rfl) (hloc : (binds.all fun x => decide (fd.scope.names.lookup x.1 = some .local)) = true := by rfl)
    (hco : fd.scope.isCoroutine = false := by rfl) (hgen : fd.scope.isGenerator = false := by rfl) (hk : fd.scope.kind = .function := by rfl) :
    wpAny (model pw w) A (call (.ref a) args.pos args.kw) Q E s := by
  refine wpAny_call (codeAny_call_def hroom ho hd (B.lim.keeps S.keep) hcd hbody hbind (fun x hx => of_decide_eq_true (List.all_eq_true.mp hcell x hx)) (locs hloc) (fun g hns hk' => ?_) hco hgen hk)
  have hL : St h₀ g ((s.heap.objs.size, nsP fun x => binds.reverse.lookup x) :: H) :=
    S.grow hk' (new := [(s.heap.objs.size, nsP fun x => binds.reverse.lookup x)]) (fun p hp => by rw [List.mem_singleton.mp hp]; exact ⟨Nat.le_refl _, nsP_of hns⟩) (List.pairwise_singleton ..)
  exact wpAny_mono (k _ g _ rfl hL) (fun _ _ q => q) (fun _ _ q => q.elim)

/-! calls by name -/
theorem cb1 {id : String} {e : PySem.Expr} {pos : Pos} {Q : Value → Shared → Prop} (h : wpAny (model pw w) A (eval e env) (fun v s₁ => wpAny (model pw w) A (call (.builtin id) [v]) Q E s₁) E s)
    (hs : starEach [e] env = [(false, eval e env)] := by rfl) : wpAny (model pw w) A (callWith pos (.builtin id) [] (backTo pos (starEach [e] env)) []) Q E s := by
  rw [hs]
  exact callWith_builtin rfl (evalArgs_plain (spliced_cons (wpAny_mono h (fun _ _ h₁ => spliced_nil h₁) fun _ _ e => e)))
theorem cb2 {id : String} {e e' : PySem.Expr} {pos : Pos} {Q : Value → Shared → Prop} (h : wpAny (model pw w) A (eval e env) (fun v s₁ => wpAny (model pw w) A (eval e' env) (fun v' s₂ => wpAny (model pw w) A (call (.builtin id) [v, v']) Q E s₂) E s₁) E s)
    (hs : starEach [e, e'] env = [(false, eval e env), (false, eval e' env)] := by rfl) : wpAny (model pw w) A (callWith pos (.builtin id) [] (backTo pos (starEach [e, e'] env)) []) Q E s := by
  rw [hs]
  exact callWith_builtin rfl (evalArgs_plain (spliced_cons (wpAny_mono h (fun _ _ h₁ => spliced_cons (wpAny_mono h₁ (fun _ _ h₂ => spliced_nil h₂) fun _ _ e => e)) fun _ _ e => e)))
theorem ct1 {T : String} {e : PySem.Expr} {pos : Pos} {Q : Value → Shared → Prop} (h : wpAny (model pw w) A (eval e env) (fun v s₁ => wpAny (model pw w) A (call (.type T) [v]) Q E s₁) E s)
    (hs : starEach [e] env = [(false, eval e env)] := by rfl) : wpAny (model pw w) A (callWith pos (.type T) [] (backTo pos (starEach [e] env)) []) Q E s := by
  rw [hs]
  exact PySem.callWith_type rfl (evalArgs_plain (spliced_cons (wpAny_mono h (fun _ _ h₁ => spliced_nil h₁) fun _ _ e => e)))
theorem ct2 {T : String} {e e' : PySem.Expr} {pos : Pos} {Q : Value → Shared → Prop} (h : wpAny (model pw w) A (eval e env) (fun v s₁ => wpAny (model pw w) A (eval e' env) (fun v' s₂ => wpAny (model pw w) A (call (.type T) [v, v']) Q E s₂) E s₁) E s)
    (hs : starEach [e, e'] env = [(false, eval e env), (false, eval e' env)] := by rfl) : wpAny (model pw w) A (callWith pos (.type T) [] (backTo pos (starEach [e, e'] env)) []) Q E s := by
  rw [hs]
  exact PySem.callWith_type rfl (evalArgs_plain (spliced_cons (wpAny_mono h (fun _ _ h₁ => spliced_cons (wpAny_mono h₁ (fun _ _ h₂ => spliced_nil h₂) fun _ _ e => e)) fun _ _ e => e)))
theorem ct3 {T : String} {e e' e'' : PySem.Expr} {pos : Pos} {Q : Value → Shared → Prop} (h : wpAny (model pw w) A (eval e env) (fun v s₁ => wpAny (model pw w) A (eval e' env) (fun v' s₂ => wpAny (model pw w) A (eval e'' env) (fun v'' s₃ => wpAny (model pw w) A (call (.type T) [v, v', v'']) Q E s₃) E s₂) E s₁) E s)
    (hs : starEach [e, e', e''] env = [(false, eval e env), (false, eval e' env), (false, eval e'' env)] := by rfl) : wpAny (model pw w) A (callWith pos (.type T) [] (backTo pos (starEach [e, e', e''] env)) []) Q E s := by
  rw [hs]
  exact PySem.callWith_type rfl (evalArgs_plain (spliced_cons (wpAny_mono h (fun _ _ h₁ => spliced_cons (wpAny_mono h₁ (fun _ _ h₂ => spliced_cons (wpAny_mono h₂ (fun _ _ h₃ => spliced_nil h₃) fun _ _ e => e)) fun _ _ e => e)) fun _ _ e => e)))
theorem cf1 {a : Addr} {e : PySem.Expr} {pos : Pos} {Q : Value → Shared → Prop} (ho : ∃ o fd, h₀.base.get? a = some o ∧ o.data = .func fd)
    (h : wpAny (model pw w) A (eval e env) (fun v s₁ => (∀ b o, h₀.base.get? b = some o → s₁.heap.get? b = some o) ∧ wpAny (model pw w) A (call (.ref a) [v] []) Q E s₁) E s)
    (hs : starEach [e] env = [(false, eval e env)] := by rfl) : wpAny (model pw w) A (callWith pos (.ref a) [] (backTo pos (starEach [e] env)) []) Q E s := by
  rw [hs]
  obtain ⟨o, fd, ho, hd⟩ := ho
  exact callWith_function (o := o) (fd := fd) (evalArgs_plain (spliced_cons (wpAny_mono h (fun _ _ h₁ => spliced_nil ⟨⟨h₁.1 _ _ ho, hd⟩, h₁.2⟩) fun _ _ e => e)))
theorem cf2 {a : Addr} {e e' : PySem.Expr} {pos : Pos} {Q : Value → Shared → Prop} (ho : ∃ o fd, h₀.base.get? a = some o ∧ o.data = .func fd)
    (h : wpAny (model pw w) A (eval e env) (fun v s₁ => wpAny (model pw w) A (eval e' env) (fun v' s₂ => (∀ b o, h₀.base.get? b = some o → s₂.heap.get? b = some o) ∧ wpAny (model pw w) A (call (.ref a) [v, v'] []) Q E s₂) E s₁) E s)
    (hs : starEach [e, e'] env = [(false, eval e env), (false, eval e' env)] := by rfl) : wpAny (model pw w) A (callWith pos (.ref a) [] (backTo pos (starEach [e, e'] env)) []) Q E s := by
  rw [hs]
  obtain ⟨o, fd, ho, hd⟩ := ho
  exact callWith_function (o := o) (fd := fd) (evalArgs_plain (spliced_cons (wpAny_mono h (fun _ _ h₁ => spliced_cons (wpAny_mono h₁ (fun _ _ h₂ => spliced_nil ⟨⟨h₂.1 _ _ ho, hd⟩, h₂.2⟩) fun _ _ e => e)) fun _ _ e => e)))
theorem cf3 {a : Addr} {e e' e'' : PySem.Expr} {pos : Pos} {Q : Value → Shared → Prop} (ho : ∃ o fd, h₀.base.get? a = some o ∧ o.data = .func fd)
    (h : wpAny (model pw w) A (eval e env) (fun v s₁ => wpAny (model pw w) A (eval e' env) (fun v' s₂ => wpAny (model pw w) A (eval e'' env) (fun v'' s₃ => (∀ b o, h₀.base.get? b = some o → s₃.heap.get? b = some o) ∧ wpAny (model pw w) A (call (.ref a) [v, v', v''] []) Q E s₃) E s₂) E s₁) E s)
    (hs : starEach [e, e', e''] env = [(false, eval e env), (false, eval e' env), (false, eval e'' env)] := by rfl) : wpAny (model pw w) A (callWith pos (.ref a) [] (backTo pos (starEach [e, e', e''] env)) []) Q E s := by
  rw [hs]
  obtain ⟨o, fd, ho, hd⟩ := ho
  exact callWith_function (o := o) (fd := fd) (evalArgs_plain (spliced_cons (wpAny_mono h (fun _ _ h₁ => spliced_cons (wpAny_mono h₁ (fun _ _ h₂ => spliced_cons (wpAny_mono h₂ (fun _ _ h₃ => spliced_nil ⟨⟨h₃.1 _ _ ho, hd⟩, h₃.2⟩) fun _ _ e => e)) fun _ _ e => e)) fun _ _ e => e)))
theorem cf4 {a : Addr} {e e' e'' e₄ : PySem.Expr} {pos : Pos} {Q : Value → Shared → Prop} (ho : ∃ o fd, h₀.base.get? a = some o ∧ o.data = .func fd)
    (h : wpAny (model pw w) A (eval e env) (fun v s₁ => wpAny (model pw w) A (eval e' env) (fun v' s₂ => wpAny (model pw w) A (eval e'' env) (fun v'' s₃ => wpAny (model pw w) A (eval e₄ env) (fun v₄ s₄ => (∀ b o, h₀.base.get? b = some o → s₄.heap.get? b = some o) ∧ wpAny (model pw w) A (call (.ref a) [v, v', v'', v₄] []) Q E s₄) E s₃) E s₂) E s₁) E s)
    (hs : starEach [e, e', e'', e₄] env = [(false, eval e env), (false, eval e' env), (false, eval e'' env), (false, eval e₄ env)] := by rfl) : wpAny (model pw w) A (callWith pos (.ref a) [] (backTo pos (starEach [e, e', e'', e₄] env)) []) Q E s := by
  rw [hs]
  obtain ⟨o, fd, ho, hd⟩ := ho
  exact callWith_function (o := o) (fd := fd) (evalArgs_plain (spliced_cons (wpAny_mono h (fun _ _ h₁ => spliced_cons (wpAny_mono h₁ (fun _ _ h₂ => spliced_cons (wpAny_mono h₂ (fun _ _ h₃ => spliced_cons (wpAny_mono h₃ (fun _ _ h₄ => spliced_nil ⟨⟨h₄.1 _ _ ho, hd⟩, h₄.2⟩) fun _ _ e => e)) fun _ _ e => e)) fun _ _ e => e)) fun _ _ e => e)))
theorem Bs.fn {a : Addr} {st : Stmt} {dV kV cd : Value} (h : ∃ pm, h₀.base.get? a = some (mkFn st dV kV pm cd)) : ∃ o fd, h₀.base.get? a = some o ∧ o.data = .func fd := let ⟨_, e⟩ := h; ⟨_, _, e, rfl⟩
end
end Mine
end
/-! text B2 -/
section
open PySem PySem.W PyProof.Rows PySem.Spec PySem.Calls
set_option maxRecDepth 100000
set_option linter.unusedVariables false
namespace Mine
/-- a list of ints -/
noncomputable def intsP (xs : List Int) : PO := fun o => ∃ vs, IntsAre vs xs ∧ listP vs o
theorem ints_len : ∀ {vs : List Value} {xs : List Int}, IntsAre vs xs → vs.length = xs.length
  | _, _, .nil => rfl
  | _, _, .cons _ _ h => by rw [List.length_cons, List.length_cons, ints_len h]
theorem ints_get : ∀ {vs : List Value} {xs : List Int}, IntsAre vs xs → ∀ (i : Nat) (x : Int), xs[i]? = some x → ∃ t, vs[i]? = some (.int x t)
  | _, _, .nil, i, x, h => by simp at h
  | _, _, .cons n t h, 0, x, hx => by
    simp only [List.getElem?_cons_zero, Option.some.injEq] at hx
    exact ⟨t, by simp [hx]⟩
  | _, _, .cons n t h, i + 1, x, hx => by
    simp only [List.getElem?_cons_succ] at hx ⊢
    exact ints_get h i x hx
theorem ints_snoc : ∀ {vs : List Value} {xs : List Int}, IntsAre vs xs → ∀ (x : Int) (t : Tok), IntsAre (vs ++ [.int x t]) (xs ++ [x])
  | _, _, .nil, x, t => .cons x t .nil
  | _, _, .cons n u h, x, t => .cons n u (ints_snoc h x t)
theorem ints_app : ∀ {vs vs' : List Value} {xs ys : List Int}, IntsAre vs xs → IntsAre vs' ys → IntsAre (vs ++ vs') (xs ++ ys)
  | _, _, _, _, .nil, h => h
  | _, _, _, _, .cons n u h, h' => .cons n u (ints_app h h')
section
variable {w : World} {A : Around} {E : Value → Shared → Prop} {s : Shared} {h₀ : Gd} {H : Led} {env : Env}
theorem St.intsL {h : Heap} {a : Addr} {xs : List Int} (S : St h₀ h H) (hm : (a, intsP xs) ∈ H) : ∃ vs, IntsAre vs xs ∧ h.PlainList a vs.toArray := by
  obtain ⟨o, e, vs, h1, n, h2⟩ := S.led _ hm
  exact ⟨vs, h1, n, h2 ▸ e⟩
theorem sub_ints {value slice : PySem.Expr} {l : Addr} {xs : List Int} {k x : Int} {t : Tok} {Q : Value → Shared → Prop} (S : St h₀ s.heap H) (hm : (l, intsP xs) ∈ H) (h0 : 0 ≤ k) (hk : k < 2 ^ 63)
    (hx : xs[k.toNat]? = some x) (h : ∀ t', Q (.int x t') s)
    (hs : subscripted slice false (.ref l) (.int k t) = operate [.ref l, .int k t] (getItem (.ref l) (.int k t)) := by with_unfolding_all rfl) :
    wpAny (model pw w) A (subscriptTail value slice (.ref l) (.int k t)) Q E s := by
  obtain ⟨vs, hi, hl⟩ := S.intsL hm
  obtain ⟨t', e⟩ := ints_get hi _ _ hx
  exact tail_any hl.isList.typeIs slot_list_getitem.lookup (wpAny_getItem_list hl.isList h0 hk (by simpa using e) (h t')) hs
theorem len_ints {l : Addr} {xs : List Int} {Q : Value → Shared → Prop} (S : St h₀ s.heap H) (hm : (l, intsP xs) ∈ H) (hf : xs.length < 2 ^ 62)
    (h : ∀ t tk, Q (.int xs.length t) { s with toks := tk }) : wpAny (model pw w) A (call (.builtin "len") [.ref l]) Q E s := by
  obtain ⟨vs, hi, hl⟩ := S.intsL hm
  have e := ints_len hi
  refine call_len_list hl.isList (by rw [List.size_toArray, e]; omega) ?_
  rw [List.size_toArray, e]
  exact h _ _

/-- binding bisect_left's arguments, its defaults filled in -/
theorem Bs0.frag (B : Bs0 w h₀.base) (S : St h₀ s.heap H) : ∃ t n hs t' n', Frag.In [(29, { cls := .type "tuple", data := .seq #[.int 0 t, .none] n }), (30, { cls := .type "dict", data := .dict #[⟨hs, .str "key" t', .none⟩] n' })] s.heap := by
  obtain ⟨t, n, e⟩ := B.d29
  obtain ⟨hs, t', n', e'⟩ := B.d30
  refine ⟨t, n, hs, t', n', Frag.in_of (as := [29, 30]) rfl ?_⟩
  simp only [List.map_cons, List.map_nil, S.keep _ _ e, S.keep _ _ e']
end
end Mine
end
/-! text B3 -/
section
open PySem PySem.W PyProof.Rows PySem.Spec PySem.Calls
set_option maxRecDepth 100000
set_option linter.unusedVariables false
namespace Mine
noncomputable def fnP (fd : FuncData) : PO := fun o => o.data = .func fd
section
variable {w : World} {A : Around} {E : Value → Shared → Prop} {s : Shared} {h₀ : Gd} {H : Led} {env : Env}

noncomputable abbrev cellLed (cs : List (Str × Addr)) (m : Str → Option Value) : Led := cs.map fun p => (p.2, cellP (m p.1))
/-- a call of a def whose names are cells -/
theorem call_fnC {a : Addr} {fd : FuncData} {o : Obj} {body : List Stmt} {args : Args} {binds : List (Str × Value)} {Q : Value → Shared → Prop} (B : Bs w h₀) (S : St h₀ s.heap H)
    (hroom : A.depth < recursionLimit) (ho : s.heap.get? a = some o) (hd : o.data = .func fd) (hcd : s.heap.CodeRec fd.code fd.qualname) (hbody : fd.body = .stmts body) (hbind : BindsTo s fd args binds) (hclo : fd.closure = [])
    (k : ∀ L h' tk, L = s.heap.objs.size → St h₀ h' (((L, nsP (bindL (callEnvC fd L a).kindOf binds fun _ => none)) :: cellLed (cellsFrom (L + 1) fd.scope.names []) (bindC (callEnvC fd L a).kindOf binds fun _ => none)) ++ H) →
      wpAny (model pw w) (A.deeper (callEnvC fd L a)) (execs body (callEnvC fd L a)) (fun f s' => Q (match f with | .ret v => v | _ => .none) s') (fun _ _ => False) { s with heap := h', toks := tk })
    (hkind : (binds.all fun x => fd.scope.names.lookup x.1 == some .local || fd.scope.names.lookup x.1 == some .cell) = true := by rfl)
    (hnd : ((cellsFrom 0 fd.scope.names []).map (·.1)).Nodup)
    (hco : fd.scope.isCoroutine = false := by rfl) (hgen : fd.scope.isGenerator = false := by rfl) (hk : fd.scope.kind = .function := by rfl) :
    wpAny (model pw w) A (call (.ref a) args.pos args.kw) Q E s := by
  refine wpAny_call (codeAny_call_function hroom ho hd hco hgen hbody hcd (hbind _ _ _ _ ?_))
  rw [hclo]
  refine wpAny_newFunctionEnv_cells hk (kindsX hkind _) fun env' he s' x => ?_
  subst he
  refine ⟨(B.lim.keeps S.keep).keeps x.toInCall.keep, codeAny_func ?_⟩
  obtain ⟨h₁, tk, rfl, _⟩ := x.done
  have hk₁ := x.toInCall.keep
  refine wpAny_mono (k s.heap.objs.size h₁ tk rfl (S.grow hk₁ (fun p hp => ?_) ?_)) (fun _ _ q => q) (fun _ _ q => q.elim)
  · rcases List.mem_cons.mp hp with rfl | hp
    · exact ⟨Nat.le_refl _, nsP_of x.toInCall.ns⟩
    · obtain ⟨q, hq, rfl⟩ := List.mem_map.mp hp
      refine ⟨Nat.le_of_lt (x.above q.1 q.2 hq), ?_⟩
      exact x.cell q.1 q.2 (lookup_of_mem_nodup (cellsFrom_names fd.scope.names 0 (s.heap.objs.size + 1) [] [] rfl ▸ hnd) hq)
  · rw [List.map_cons, List.nodup_cons]
    have e : (cellLed (cellsFrom (s.heap.objs.size + 1) fd.scope.names []) (bindC (callEnvC fd s.heap.objs.size a).kindOf binds fun _ => none)).map (·.1) = (cellsFrom (s.heap.objs.size + 1) fd.scope.names []).map (·.2) := by
      simp only [cellLed, List.map_map]
      rfl
    rw [e]
    constructor
    · intro hm
      obtain ⟨q, hq, e⟩ := List.mem_map.mp hm
      exact absurd (x.above q.1 q.2 hq) (by rw [e]; exact Nat.lt_irrefl _)
    · exact List.pairwise_map.mpr x.apart

theorem mk_inner1 {name : Str} {params : Arguments} {body : List Stmt} {scope : Scope} {pos : Pos} {fl : Nat} {clos : List (Str × Addr)} {Q : Value → Shared → Prop} (B : Bs w h₀) (S : St h₀ s.heap H)
    (hcode : env.code = .ref 20) (hge : env.globals = mainGlobals) (hcl : closureFor scope env = pure clos) (hpl : pos.line = 5) (hpc : pos.col = 4)
    (k : ∀ f c ctv doc pm h' tk, St { h₀ with c1 := some c } h' ((f, fnP (fnX name q1 params body scope clos .none .none doc pm none (.ref c) ctv)) :: H) → Q (.ref f) { s with heap := h', toks := tk }) :
    wpAny (model pw w) A (makeFunction name q1 params (.stmts body) scope env [] [] [] pos fl) Q E s := by
  obtain ⟨mg, h1, h2⟩ := B.g
  have hg := h1.keeps S.keep
  have hb : s.heap.BuiltinsAt mg 16 := ⟨4, _, h2 ("__builtins__", some (.ref 4)) (by decide), by decide, by decide, by decide, S.keep _ _ B.b4, rfl, rfl, rfl⟩
  have hC := B.k20.keeps S.keep
  cases hc : h₀.c1 with
  | none =>
    have hP := S.t1.at_
    rw [hc] at hP
    refine makeFunction_K (mg := mg) (ps := #[]) hcl hge hg hcode hC hP trivial rfl (by decide) hb fun c' ctv doc h' tk hx hge' hlt hrec htab => ?_
    have hsz : ∀ b o, s.heap.get? b = some o → b < s.heap.objs.size := fun b o e => Heap.lt_size e
    have l16 : 16 < s.heap.objs.size := hsz _ _ S.t1.at_
    have l23 : 23 < s.heap.objs.size := hsz _ _ S.t2.at_
    have S' : St { h₀ with c1 := some c' } h' H := by
      refine ⟨fun b o e => hx b o (fun q => by rw [q, S.o1] at e; cases e) (S.keep b o e), fun p hp => ?_, S.nodup, S.off, ?_, ?_, S.o1, S.o2⟩
      · obtain ⟨o, e, r⟩ := S.led p hp
        exact ⟨o, hx _ _ (S.off p hp).2.1 e, r⟩
      · refine ⟨?_, fun c e => ?_⟩
        · have e := htab
          rw [hpl, hpc] at e
          exact e
        · cases e
          refine ⟨fun hm => ?_, ?_, ?_, ?_, hrec⟩
          · obtain ⟨p, hp, e⟩ := List.mem_map.mp hm
            obtain ⟨o, e', _⟩ := S.led p hp
            exact absurd (hsz _ _ e') (by rw [e]; exact Nat.not_lt.mpr hge')
          all_goals (rintro rfl; omega)
      · refine ⟨hx _ _ (by decide) S.t2.at_, fun c e => ?_⟩
        obtain ⟨e2, e3, e4, e5, c₂, o', vs, t, e7, e8, e9⟩ := S.t2.code c e
        refine ⟨e2, e3, e4, e5, c₂, o', vs, t, e7, hx _ _ ?_ e8, e9⟩
        cases e7
        exact e4
    exact k _ _ _ _ _ _ _ (S'.push _ _ rfl)
  | some c =>
    have hP := S.t1.at_
    rw [hc] at hP
    refine makeFunction_hit (mg := mg) (cv := .ref c) hcl hge hg hcode hC hP trivial ?_ hb fun ctv doc h' tk hk hsz => ?_
    · show codeAmong pos [rawInt 5, rawInt 4, .ref c] = some (.ref c)
      unfold codeAmong
      rw [hpl, hpc]
      rfl
    · have S' : St h₀ h' H := S.grow (new := []) hk (fun _ h => nomatch h) List.Pairwise.nil
      have e : ({ h₀ with c1 := some c } : Gd) = h₀ := by rw [← hc]
      exact k _ c _ _ _ _ _ (by rw [e]; exact S'.push _ _ rfl)

theorem mk_inner2 {name : Str} {params : Arguments} {body : List Stmt} {scope : Scope} {pos : Pos} {fl : Nat} {clos : List (Str × Addr)} {Q : Value → Shared → Prop} (B : Bs w h₀) (S : St h₀ s.heap H)
    (hcode : env.code = .ref 27) (hge : env.globals = mainGlobals) (hcl : closureFor scope env = pure clos) (hpl : pos.line = 20) (hpc : pos.col = 4)
    (k : ∀ f c ctv doc pm h' tk, St { h₀ with c2 := some c } h' ((f, fnP (fnX name q2 params body scope clos .none .none doc pm none (.ref c) ctv)) :: H) → Q (.ref f) { s with heap := h', toks := tk }) :
    wpAny (model pw w) A (makeFunction name q2 params (.stmts body) scope env [] [] [] pos fl) Q E s := by
  obtain ⟨mg, h1, h2⟩ := B.g
  have hg := h1.keeps S.keep
  have hb : s.heap.BuiltinsAt mg 23 := ⟨4, _, h2 ("__builtins__", some (.ref 4)) (by decide), by decide, by decide, by decide, S.keep _ _ B.b4, rfl, rfl, rfl⟩
  have hC := B.k27.keeps S.keep
  cases hc : h₀.c2 with
  | none =>
    have hP := S.t2.at_
    rw [hc] at hP
    refine makeFunction_K (mg := mg) (ps := #[]) hcl hge hg hcode hC hP trivial rfl (by decide) hb fun c' ctv doc h' tk hx hge' hlt hrec htab => ?_
    have hsz : ∀ b o, s.heap.get? b = some o → b < s.heap.objs.size := fun b o e => Heap.lt_size e
    have l16 : 16 < s.heap.objs.size := hsz _ _ S.t1.at_
    have l23 : 23 < s.heap.objs.size := hsz _ _ S.t2.at_
    have S' : St { h₀ with c2 := some c' } h' H := by
      refine ⟨fun b o e => hx b o (fun q => by rw [q, S.o2] at e; cases e) (S.keep b o e), fun p hp => ?_, S.nodup, S.off, ?_, ?_, S.o1, S.o2⟩
      · obtain ⟨o, e, r⟩ := S.led p hp
        exact ⟨o, hx _ _ (S.off p hp).2.2 e, r⟩
      · refine ⟨hx _ _ (by decide) S.t1.at_, fun c e => ?_⟩
        obtain ⟨e2, e3, e4, e5, c₂, o', vs, t, e7, e8, e9⟩ := S.t1.code c e
        refine ⟨e2, e3, e4, e5, c₂, o', vs, t, e7, hx _ _ ?_ e8, e9⟩
        cases e7
        exact e5
      · refine ⟨?_, fun c e => ?_⟩
        · have e := htab
          rw [hpl, hpc] at e
          exact e
        · cases e
          refine ⟨fun hm => ?_, ?_, ?_, ?_, hrec⟩
          · obtain ⟨p, hp, e⟩ := List.mem_map.mp hm
            obtain ⟨o, e', _⟩ := S.led p hp
            exact absurd (hsz _ _ e') (by rw [e]; exact Nat.not_lt.mpr hge')
          all_goals (rintro rfl; omega)
    exact k _ _ _ _ _ _ _ (S'.push _ _ rfl)
  | some c =>
    have hP := S.t2.at_
    rw [hc] at hP
    refine makeFunction_hit (mg := mg) (cv := .ref c) hcl hge hg hcode hC hP trivial ?_ hb fun ctv doc h' tk hk hsz => ?_
    · show codeAmong pos [rawInt 20, rawInt 4, .ref c] = some (.ref c)
      unfold codeAmong
      rw [hpl, hpc]
      rfl
    · have S' : St h₀ h' H := S.grow (new := []) hk (fun _ h => nomatch h) List.Pairwise.nil
      have e : ({ h₀ with c2 := some c } : Gd) = h₀ := by rw [← hc]
      exact k _ c _ _ _ _ _ (by rw [e]; exact S'.push _ _ rfl)

theorem St.fnAt {h : Heap} {f : Addr} {fd : FuncData} (S : St h₀ h H) (hm : (f, fnP fd) ∈ H) : FnAt f h := by
  obtain ⟨⟨oc, od, dt, sl⟩, e, e2⟩ := S.led _ hm
  have e2 : dt = .func fd := e2
  subst e2
  exact ⟨oc, od, fd, sl, e⟩
theorem cg2 {a : Addr} {e e' : PySem.Expr} {pos : Pos} {Q : Value → Shared → Prop} (X : FnAt a s.heap)
    (h : wpAny (model pw w) A (eval e env) (fun v s₁ => wpAny (model pw w) A (eval e' env) (fun v' s₂ => FnAt a s₂.heap ∧ wpAny (model pw w) A (call (.ref a) [v, v'] []) Q E s₂) E s₁) E s)
    (hs : starEach [e, e'] env = [(false, eval e env), (false, eval e' env)] := by rfl) (hs' : starEach [e'] env = [(false, eval e' env)] := by rfl) : wpAny (model pw w) A (callWith pos (.ref a) [] (backTo pos (starEach [e, e'] env)) []) Q E s :=
  callWith_F X (by rw [hs]; exact spliced_cons (wpAny_mono h (fun _ _ h₁ => spliced_cons (wpAny_mono h₁ (fun _ _ h₂ => spliced_nil h₂) fun _ _ e => e)) fun _ _ e => e)) (by rw [hs, hs']) (by rw [hs']; rfl)
theorem cg3 {a : Addr} {e e' e'' : PySem.Expr} {pos : Pos} {Q : Value → Shared → Prop} (X : FnAt a s.heap)
    (h : wpAny (model pw w) A (eval e env) (fun v s₁ => wpAny (model pw w) A (eval e' env) (fun v' s₂ => wpAny (model pw w) A (eval e'' env) (fun v'' s₃ => FnAt a s₃.heap ∧ wpAny (model pw w) A (call (.ref a) [v, v', v''] []) Q E s₃) E s₂) E s₁) E s)
    (hs : starEach [e, e', e''] env = [(false, eval e env), (false, eval e' env), (false, eval e'' env)] := by rfl) (hs' : starEach [e', e''] env = [(false, eval e' env), (false, eval e'' env)] := by rfl) : wpAny (model pw w) A (callWith pos (.ref a) [] (backTo pos (starEach [e, e', e''] env)) []) Q E s :=
  callWith_F X (by rw [hs]; exact spliced_cons (wpAny_mono h (fun _ _ h₁ => spliced_cons (wpAny_mono h₁ (fun _ _ h₂ => spliced_cons (wpAny_mono h₂ (fun _ _ h₃ => spliced_nil h₃) fun _ _ e => e)) fun _ _ e => e)) fun _ _ e => e)) (by rw [hs, hs']) (by rw [hs']; rfl)
theorem bits_le {a k : Nat} (h : a < 2 ^ k) : Builtin.Int.intBits (a : Int) ≤ k := by
  unfold Builtin.Int.intBits
  split
  · exact Nat.zero_le _
  · rename_i hz
    have hz : a ≠ 0 := by simpa using hz
    have := (Nat.log2_lt hz).mpr h
    simp only [Int.natAbs_natCast]
    omega
end
end Mine
end
/-! text B4 -/
section
open PySem PySem.W PyProof.Rows PySem.Spec PySem.Calls
namespace Mine
theorem ite_t {b : Bool} {P Q : Prop} (hb : b = true) (h : P) : if b = true then P else Q := by subst hb; exact h
theorem ite_f {b : Bool} {P Q : Prop} (hb : b = false) (h : Q) : if b = true then P else Q := by subst hb; exact h
section
variable {w : World} {A : Around} {E : Value → Shared → Prop} {s : Shared} {t u : Tok} {Q : Value → Shared → Prop}
theorem add_to {a b : Int} (c : Int) (e : a + b = c) (h : Q (.int c s.toks) { s with toks := s.toks + 1 }) : wpAny (model pw w) A (binaryOp .Add (.int a t) (.int b u)) Q E s := by
  subst e; exact wpAny_add_int h
theorem sub_to {a b : Int} (c : Int) (e : a - b = c) (h : Q (.int c s.toks) { s with toks := s.toks + 1 }) : wpAny (model pw w) A (binaryOp .Sub (.int a t) (.int b u)) Q E s := by
  subst e; exact sub_int h
theorem mul_to {a b : Int} (c : Int) (e : a * b = c) (hm : IntMulOk a b) (h : Q (.int c s.toks) { s with toks := s.toks + 1 }) : wpAny (model pw w) A (binaryOp .Mult (.int a t) (.int b u)) Q E s := by
  subst e; exact mul_int h hm
theorem lsh_to {a b : Int} (c : Int) (e : a * 2 ^ b.toNat = c) (hb : 0 ≤ b) (hs : (Builtin.Int.intBits a : Int) + b ≤ 2 ^ 27) (h : Q (.int c s.toks) { s with toks := s.toks + 1 }) : wpAny (model pw w) A (binaryOp .LShift (.int a t) (.int b u)) Q E s := by
  subst e; exact lshift_int hb hs h
theorem rsh_to {a b : Int} (c : Int) (e : a.fdiv (2 ^ b.toNat) = c) (hb : 0 ≤ b) (h : Q (.int c s.toks) { s with toks := s.toks + 1 }) : wpAny (model pw w) A (binaryOp .RShift (.int a t) (.int b u)) Q E s := by
  subst e; exact rshift_int hb h
theorem xor_to {a b : Int} (c : Int) (e : Builtin.bitXor a b = c) (h : Q (.int c s.toks) { s with toks := s.toks + 1 }) : wpAny (model pw w) A (binaryOp .BitXor (.int a t) (.int b u)) Q E s := by
  subst e; exact xor_int h
theorem fdiv_to {a b : Int} (c : Int) (e : a.fdiv b = c) (hb : b ≠ 0) (hp : Builtin.divisionGoesByPylong a b = false) (h : Q (.int c s.toks) { s with toks := s.toks + 1 }) : wpAny (model pw w) A (binaryOp .FloorDiv (.int a t) (.int b u)) Q E s := by
  subst e; exact floordiv_int hb h (Or.inl hp)
theorem mod_to {a b : Int} (c : Int) (e : a.fmod b = c) (hb : b ≠ 0) (h : Q (.int c s.toks) { s with toks := s.toks + 1 }) : wpAny (model pw w) A (binaryOp .Mod (.int a t) (.int b u)) Q E s := by
  subst e; exact PyProof.Rows.mod_int hb h
theorem neg_to {a : Int} (c : Int) (e : -a = c) (h : Q (.int c s.toks) { s with toks := s.toks + 1 }) : wpAny (model pw w) A (unaryOp .USub (.int a t)) Q E s := by
  subst e; exact neg_int h
theorem eq_to {a b : Int} (c : Bool) (e : (a == b) = c) (h : Q (.bool c) s) : wpAny (model pw w) A (compareOp .Eq (.int a t) (.int b u)) Q E s := by
  subst e; exact eq_int h
theorem ne_to {a b : Int} (c : Bool) (e : (a != b) = c) (h : Q (.bool c) s) : wpAny (model pw w) A (compareOp .NotEq (.int a t) (.int b u)) Q E s := by
  subst e; exact ne_int h
theorem eqn_to {a b : Nat} (h : Q (.bool (decide (a = b))) s) : wpAny (model pw w) A (compareOp .Eq (.int a t) (.int b u)) Q E s := by
  refine eq_int ?_
  have e : ((a : Int) == (b : Int)) = decide (a = b) := by
    by_cases h : a = b
    · subst h; simp
    · rw [decide_eq_false h]; exact beq_eq_false_iff_ne.2 (by omega)
  rw [e]; exact h
theorem addn {a b : Nat} (h : Q (.int ((a + b : Nat) : Int) s.toks) { s with toks := s.toks + 1 }) : wpAny (model pw w) A (binaryOp .Add (.int a t) (.int b u)) Q E s := add_to _ rfl h
theorem subn {a b : Nat} (hab : b ≤ a) (h : Q (.int ((a - b : Nat) : Int) s.toks) { s with toks := s.toks + 1 }) : wpAny (model pw w) A (binaryOp .Sub (.int a t) (.int b u)) Q E s := sub_to _ (by omega) h
theorem truthy_ints {l : Addr} {xs : List Int} {h₀ : Gd} {H : Led} {Q : Bool → Shared → Prop} (S : St h₀ s.heap H) (hm : (l, intsP xs) ∈ H) (hf : xs.length < 2 ^ 62)
    (h : ∀ tk, Q (!xs.isEmpty) { s with toks := tk }) : wpAny (model pw w) A (truthy (.ref l)) Q E s := by
  obtain ⟨vs, hi, hl⟩ := S.intsL hm
  have e := ints_len hi
  refine wpAny_truthy_list hl.isList (by rw [List.size_toArray, e]; omega) ?_
  have e2 : vs.toArray.isEmpty = xs.isEmpty := by
    cases vs with
    | nil => cases xs with
      | nil => rfl
      | cons => cases e
    | cons => cases xs with
      | nil => cases e
      | cons => rfl
  rw [e2]
  exact h _
end
end Mine
end
/-! text B5 -/
section
open PySem PySem.W PyProof.Rows PySem.Spec PySem.Calls PySem.SeqAt
set_option maxRecDepth 100000
set_option linter.unusedVariables false
namespace Mine
theorem St.perm {h₀ : Gd} {h : Heap} {H H' : Led} (S : St h₀ h H) (p : H.Perm H') : St h₀ h H' := by
  have e : ∀ a ∈ H'.map (·.1), a ∈ H.map (·.1) := fun a ha => (p.map _).symm.subset ha
  exact ⟨S.keep, fun q hq => S.led q (p.symm.subset hq), (p.map _).nodup_iff.mp S.nodup, fun q hq => S.off q (p.symm.subset hq), S.t1.sub e, S.t2.sub e, S.o1, S.o2⟩
theorem St.swap {h₀ : Gd} {h : Heap} {H : Led} {p q : Addr × PO} (S : St h₀ h (p :: q :: H)) : St h₀ h (q :: p :: H) := S.perm (List.Perm.swap ..)
theorem St.keeps {h₀ : Gd} {h g : Heap} {H : Led} (S : St h₀ h H) (hk : ∀ b o, h.get? b = some o → g.get? b = some o) : St h₀ g H :=
  S.grow (new := []) hk (fun _ hp => nomatch hp) .nil
theorem ints_set : ∀ {vs : List Value} {xs : List Int}, IntsAre vs xs → ∀ (i : Nat) (x : Int) (t : Tok), IntsAre (vs.set i (.int x t)) (xs.set i x)
  | _, _, .nil, _, x, t => .nil
  | _, _, .cons n u h, 0, x, t => .cons x t h
  | _, _, .cons n u h, i + 1, x, t => .cons n u (ints_set h i x t)
theorem ints_rep {vs : List Value} {xs : List Int} (h : IntsAre vs xs) : ∀ k : Nat, IntsAre (List.replicate k vs).flatten (List.replicate k xs).flatten
  | 0 => .nil
  | k + 1 => by
    rw [List.replicate_succ, List.replicate_succ, List.flatten_cons, List.flatten_cons]
    exact ints_app h (ints_rep h k)
section
variable {w : World} {A : Around} {E : Value → Shared → Prop} {s : Shared} {t u : Tok} {h₀ : Gd} {H : Led} {env : Env}
theorem St.ints {h : Heap} {a : Addr} {xs : List Int} (S : St h₀ h H) (hm : (a, intsP xs) ∈ H) : ∃ vs n, IntsAre vs xs ∧ h.get? a = some { cls := .type "list", data := .seq vs.toArray n } := by
  obtain ⟨o, e, vs, h1, n, h2⟩ := S.led _ hm
  exact ⟨vs, n, h1, h2 ▸ e⟩
theorem intsP_of {vs : List Value} {xs : List Int} {n : Nat} (h : IntsAre vs xs) : intsP xs { cls := .type "list", data := .seq vs.toArray n } := ⟨vs, h, n, rfl⟩
theorem mul_ints {l : Addr} {xs : List Int} {x : Int} {Q : Value → Shared → Prop} (S : St h₀ s.heap H) (hm : (l, intsP xs) ∈ H) (h0 : -(2 ^ 63 : Int) ≤ x) (hsz : xs.length * x.toNat ≤ 2 ^ 24) (hx : x < 2 ^ 63)
    (h : ∀ r h', St h₀ h' ((r, intsP (List.replicate x.toNat xs).flatten) :: H) → Q (.ref r) { s with heap := h' }) : wpAny (model pw w) A (binaryOp .Mult (.ref l) (.int x u)) Q E s := by
  obtain ⟨vs, n, hi, hl⟩ := S.ints hm
  have e := ints_len hi
  refine wpAny_binaryOp_repeat_ref (T := "list") (U := "int") (by decide) ⟨_, hl, rfl⟩ (fun s' => typeIs_int s' x u) noFill_list_mul F.fills_int_mul F.slot_int_rmul repeat_list F.slot_int_index.lookup
    (call_meets F.slot_int_rmul (typeIs_int s x u) F.entry_int_rmul (F.args_int_rmul_2 _ _) (int___rmul___int_list x u l vs.toArray n)
      ⟨hl, rfl, ⟨_, hl, rfl⟩, call_meets F.slot_list_mul ⟨_, hl, rfl⟩ F.entry_list_mul (F.args_list_mul_2 _ _)
        (AutoListH.list___mul___list_int_3 l vs.toArray n x u (by simp [Builtin.List.listFitsIndex]; omega) (by rw [List.size_toArray, e]; omega) (by simp only [Builtin.List.listTooLong, sizeLine, List.size_toArray, e]; simp; omega))
        ⟨hl, ?_⟩⟩)
  refine h _ _ (S.push _ _ ?_)
  rw [listMul_foldl_if]
  exact intsP_of (ints_rep hi _)
theorem add_ints {l b : Addr} {xs ys : List Int} {Q : Value → Shared → Prop} (S : St h₀ s.heap H) (hm : (l, intsP xs) ∈ H) (hm' : (b, intsP ys) ∈ H) (hsz : xs.length + ys.length ≤ 2 ^ 20)
    (h : ∀ r h', St h₀ h' ((r, intsP (xs ++ ys)) :: H) → Q (.ref r) { s with heap := h' }) : wpAny (model pw w) A (binaryOp .Add (.ref l) (.ref b)) Q E s := by
  obtain ⟨vs, n, hi, hl⟩ := S.ints hm
  obtain ⟨ws, n', hi', hl'⟩ := S.ints hm'
  refine P.add_list hl hl' (h _ _ (S.push _ _ ?_)) (by rw [List.size_toArray, List.size_toArray, ints_len hi, ints_len hi']; exact Nat.le_trans hsz (by decide))
  rw [List.append_toArray]
  exact intsP_of (ints_app hi hi')
theorem set_ints {l : Addr} {xs : List Int} {k x : Int} {Q : Unit → Shared → Prop} {H' : Led} (S : St h₀ s.heap H) (up : Up l (intsP xs) (intsP (xs.set k.toNat x)) H H') (h0 : 0 ≤ k) (hk : k < xs.length) (hk2 : k < 2 ^ 63)
    (h : ∀ h', St h₀ h' H' → Q () { s with heap := h' }) : wpAny (model pw w) A (setItem (.ref l) (.int k t) (.int x u)) Q E s := by
  obtain ⟨vs, n, hi, hl⟩ := S.ints up.mem
  refine ki_setAt hl h0 hk2 (by rw [List.size_toArray, ints_len hi]; exact hk) (h _ (S.up up (Heap.SameBut.update ..) ?_))
  have e : Obj.mapSeq (fun x1 => x1.setIfInBounds k.toNat (.int x u)) { cls := .type "list", data := .seq vs.toArray n } = { cls := .type "list", data := .seq (vs.set k.toNat (.int x u)).toArray n } := by
    simp [Obj.mapSeq]
  refine ⟨_, Heap.get?_update_self _ hl ?_, ?_⟩
  · show (Obj.mapSeq (fun x1 => x1.setIfInBounds k.toNat (.int x u)) { cls := .type "list", data := .seq vs.toArray n }).isFreed = false
    rw [e]; rfl
  · show intsP _ (Obj.mapSeq (fun x1 => x1.setIfInBounds k.toNat (.int x u)) { cls := .type "list", data := .seq vs.toArray n })
    rw [e]
    exact intsP_of (ints_set hi _ _ _)
theorem app_ints {l : Addr} {xs : List Int} {x : Int} {Q : Value → Shared → Prop} {H' : Led} (S : St h₀ s.heap H) (up : Up l (intsP xs) (intsP (xs ++ [x])) H H') (hsz : xs.length ≤ 2 ^ 20)
    (h : ∀ h', St h₀ h' H' → Q .none { s with heap := h' }) : wpAny (model pw w) A (call (.builtin "list.append") [.ref l, .int x u]) Q E s := by
  obtain ⟨vs, n, hi, hl⟩ := S.ints up.mem
  refine wpAny_list_append_plain ⟨n, hl⟩ (fun h' hp hs => h h' (S.up up hs ?_)) (by rw [List.size_toArray, ints_len hi]; exact Nat.le_trans hsz (by decide))
  obtain ⟨n2, e⟩ := hp
  refine ⟨_, e, ?_⟩
  rw [List.push_toArray]
  exact intsP_of (ints_snoc hi _ _)
theorem in_ints {l : Addr} {xs : List Int} {k : Int} {Q : Value → Shared → Prop} (S : St h₀ s.heap H) (hm : (l, intsP xs) ∈ H) (h : Q (.bool (decide (k ∈ xs))) s) : wpAny (model pw w) A (compareOp .In (.int k t) (.ref l)) Q E s := by
  obtain ⟨vs, n, hi, hl⟩ := S.ints hm
  refine in_list_ints (vs := vs) ⟨_, hl, rfl, n, rfl⟩ hi ?_
  rw [show (xs.any (· == k)) = decide (k ∈ xs) by rw [Bool.eq_iff_iff]; simp]
  exact h
theorem ints_all {vs ws : List Value} {xs ys : List Int} (h : IntsAre vs xs) (h' : IntsAre ws ys) (hl : xs.length = ys.length) : ((List.range vs.length).all fun j => (xs[j]? == ys[j]?)) = decide (xs = ys) := by
  rw [ints_len h, Bool.eq_iff_iff]
  simp only [List.all_eq_true, List.mem_range, beq_iff_eq, decide_eq_true_eq]
  constructor
  · intro q
    refine List.ext_getElem? fun j => ?_
    by_cases hj : j < xs.length
    · exact q j hj
    · rw [List.getElem?_eq_none (by omega), List.getElem?_eq_none (by omega)]
  · rintro rfl j _; rfl
theorem ints_at {vs : List Value} {xs : List Int} (h : IntsAre vs xs) (j : Nat) (hj : j < vs.toArray.size) : ∃ t, vs.toArray[j] = .int (xs[j]?.getD 0) t := by
  have hj' : j < xs.length := by rw [← ints_len h]; simpa using hj
  obtain ⟨t, e⟩ := ints_get h j xs[j] (List.getElem?_eq_getElem hj')
  refine ⟨t, ?_⟩
  rw [List.getElem?_eq_getElem hj', Option.getD_some, List.getElem_toArray]
  exact Option.some.inj ((List.getElem?_eq_getElem (by simpa using hj)).symm.trans e)
theorem eq_ints {l b : Addr} {xs ys : List Int} {Q : Value → Shared → Prop} (S : St h₀ s.heap H) (hm : (l, intsP xs) ∈ H) (hm' : (b, intsP ys) ∈ H) (hu : A.units < cLine)
    (h : Q (.bool (decide (xs = ys))) s) : wpAny (model pw w) A (compareOp .Eq (.ref l) (.ref b)) Q E s := by
  obtain ⟨vs, n, hi, hl⟩ := S.ints hm
  obtain ⟨ws, n', hi', hl'⟩ := S.ints hm'
  have i1 : s.heap.IsList l vs.toArray := ⟨_, hl, rfl, n, rfl⟩
  have i2 : s.heap.IsList b ws.toArray := ⟨_, hl', rfl, n', rfl⟩
  by_cases he : xs.length = ys.length
  · refine eq_listAt (e := fun j => xs[j]? == ys[j]?) i1 i2 (by rw [List.size_toArray, List.size_toArray, ints_len hi, ints_len hi', he]) hu (fun j h1 h2 => ?_) ?_
    · obtain ⟨t1, e1⟩ := ints_at hi j h1
      obtain ⟨t2, e2⟩ := ints_at hi' j h2
      rw [e1, e2]
      have hj1 : j < xs.length := by rw [← ints_len hi]; simpa using h1
      have hj2 : j < ys.length := by rw [← ints_len hi']; simpa using h2
      rw [List.getElem?_eq_getElem hj1, List.getElem?_eq_getElem hj2]
      exact EqAt.int_int (A := A.in1) (s := s) xs[j] t1 ys[j] t2
    · rw [List.size_toArray, ints_all hi hi' he]; exact h
  · refine eq_list_lengthsAt i1 i2 ?_ hu ?_
    · rw [List.size_toArray, List.size_toArray, ints_len hi, ints_len hi']; simpa using he
    · rw [decide_eq_false (show ¬ xs = ys from fun q => he (q ▸ rfl))] at h; exact h
theorem ne_ints {l b : Addr} {xs ys : List Int} {Q : Value → Shared → Prop} (S : St h₀ s.heap H) (hm : (l, intsP xs) ∈ H) (hm' : (b, intsP ys) ∈ H) (hu : A.units < cLine)
    (h : Q (.bool (!decide (xs = ys))) s) : wpAny (model pw w) A (compareOp .NotEq (.ref l) (.ref b)) Q E s := by
  obtain ⟨vs, n, hi, hl⟩ := S.ints hm
  obtain ⟨ws, n', hi', hl'⟩ := S.ints hm'
  by_cases he : xs.length = ys.length
  · refine richCompare_meets_room (op := .NotEq) ⟨_, hl, rfl⟩ ⟨_, hl', rfl⟩ F.slot_list_ne F.entry_list_ne (F.args_list_ne_2 _ _) (list_neAt l b vs.toArray ws.toArray n n' none none #[] #[] (by rw [List.size_toArray, List.size_toArray, ints_len hi, ints_len hi', he]) (fun j => xs[j]? == ys[j]?))
      ⟨hl, hl', fun j h1 h2 => ?_, ?_⟩ hu
    · obtain ⟨t1, e1⟩ := ints_at hi j h1
      obtain ⟨t2, e2⟩ := ints_at hi' j h2
      rw [e1, e2]
      have hj1 : j < xs.length := by rw [← ints_len hi]; simpa using h1
      have hj2 : j < ys.length := by rw [← ints_len hi']; simpa using h2
      rw [List.getElem?_eq_getElem hj1, List.getElem?_eq_getElem hj2]
      exact EqAt.int_int (A := A.in1) (s := s) xs[j] t1 ys[j] t2
    · rw [List.size_toArray, ints_all hi hi' he]; exact ⟨(fun x => nomatch x), h⟩
  · refine richCompare_meets_room (op := .NotEq) ⟨_, hl, rfl⟩ ⟨_, hl', rfl⟩ F.slot_list_ne F.entry_list_ne (F.args_list_ne_2 _ _) (list_ne_lengthsAt l b vs.toArray ws.toArray n n' none none #[] #[] (by rw [List.size_toArray, List.size_toArray, ints_len hi, ints_len hi']; simpa using he))
      ⟨hl, hl', ?_⟩ hu
    rw [decide_eq_false (show ¬ xs = ys from fun q => he (q ▸ rfl))] at h
    exact ⟨(fun x => nomatch x), h⟩
theorem max2 {a b : Int} {Q : Value → Shared → Prop} (S : St h₀ s.heap H) (hh : A.handled = none) (h : ∀ t' h' tk, St h₀ h' H → Q (.int (max a b) t') { s with heap := h', toks := tk }) : wpAny (model pw w) A (call (.builtin "max") [.int a t, .int b u]) Q E s := by
  refine max_two_ints hh fun h' tk hk => ?_
  by_cases hc : b > a
  · rw [if_pos hc]; have := h u h' tk (S.keeps hk); rw [Int.max_eq_right (by omega)] at this; exact this
  · rw [if_neg hc]; have := h t h' tk (S.keeps hk); rw [Int.max_eq_left (by omega)] at this; exact this
theorem min2 {a b : Int} {Q : Value → Shared → Prop} (S : St h₀ s.heap H) (hh : A.handled = none) (h : ∀ t' h' tk, St h₀ h' H → Q (.int (min a b) t') { s with heap := h', toks := tk }) : wpAny (model pw w) A (call (.builtin "min") [.int a t, .int b u]) Q E s := by
  refine min_two_ints hh fun h' tk hk => ?_
  by_cases hc : b < a
  · rw [if_pos hc]; have := h u h' tk (S.keeps hk); rw [Int.min_eq_right (by omega)] at this; exact this
  · rw [if_neg hc]; have := h t h' tk (S.keeps hk); rw [Int.min_eq_left (by omega)] at this; exact this
end
end Mine
end
/-! text B6 -/
section
open PySem PySem.W PyProof.Rows PySem.Spec PySem.Calls PySem.SeqAt
set_option maxRecDepth 100000
set_option linter.unusedVariables false
namespace Mine
theorem St.dropE {h₀ : Gd} {h g : Heap} {H : Led} {a : Addr} {P : PO} (S : St h₀ h ((a, P) :: H)) (hs : Heap.ExtBut a h g) : St h₀ g H := by
  have hoff := S.off _ (.head _)
  have hn := (List.nodup_cons.mp S.nodup).1
  refine ⟨fun b o e => hs b o ?_ (S.keep b o e), fun q hq => ?_, (List.nodup_cons.mp S.nodup).2, fun q hq => S.off q (.tail _ hq), (S.t1.ext hs (.head _) (Ne.symm hoff.2.1)).sub fun a ha => .tail _ ha, (S.t2.ext hs (.head _) (Ne.symm hoff.2.2)).sub fun a ha => .tail _ ha, S.o1, S.o2⟩
  · rintro rfl
    rw [hoff.1] at e; cases e
  · obtain ⟨o, e, r⟩ := S.led q (.tail _ hq)
    refine ⟨o, hs _ _ (fun e => hn ?_) e, r⟩
    show a ∈ _
    rw [← e]
    exact List.mem_map_of_mem hq
noncomputable def siP (ty : String) (x : Str) (t : Tok) (i : Nat) : PO := fun o => o.cls = .type ty ∧ o.data = .fields #[.str x t, .int i 0]
/-- an iterator whose object is the ledger's: a turn, the end, and that it is its own -/
structure Steps (w : World) (I : Addr) (ip : Nat → PO) (n : Nat) (P : Nat → Value → Prop) (L : Led) : Prop where
  item : ∀ {A : Around} {E : Value → Shared → Prop} {s : Shared} {h₀ : Gd} {H : Led} {Q : Option Value → Shared → Prop} (i : Nat), i < n → St h₀ s.heap ((I, ip i) :: H) → (∀ p ∈ L, p ∈ H) →
    (∀ v h' tk, P i v → St h₀ h' ((I, ip (i + 1)) :: H) → Q (some v) { s with heap := h', toks := tk }) → wpAny (model pw w) A (pyNext (.ref I)) Q E s
  done : ∀ {A : Around} {E : Value → Shared → Prop} {s : Shared} {h₀ : Gd} {H : Led} {Q : Option Value → Shared → Prop}, A.handled = none → St h₀ s.heap ((I, ip n) :: H) → (∀ p ∈ L, p ∈ H) →
    (∀ h' tk, St h₀ h' H → Q none { s with heap := h', toks := tk }) → wpAny (model pw w) A (pyNext (.ref I)) Q E s
  self : ∀ {A : Around} {E : Value → Shared → Prop} {s : Shared} {h₀ : Gd} {H : Led} {Q : Value → Shared → Prop} (i : Nat), St h₀ s.heap ((I, ip i) :: H) → Q (.ref I) s → wpAny (model pw w) A (pyIter (.ref I)) Q E s

theorem St.li {h₀ : Gd} {h : Heap} {H : Led} {I l : Addr} {i : Nat} (S : St h₀ h H) (hm : (I, liP l i) ∈ H) : h.IsListIter I l i := by
  obtain ⟨o, e, h1, h2⟩ := S.led _ hm
  exact ⟨o, e, h1, h2⟩
theorem St.ri {h₀ : Gd} {h : Heap} {H : Led} {I : Addr} {x l st : Int} (S : St h₀ h H) (hm : (I, riP x l st) ∈ H) : IsRangeIter h I x l st := by
  obtain ⟨o, e, h1⟩ := S.led _ hm
  have h1 : o = _ := h1
  subst h1
  exact e
theorem St.si {h₀ : Gd} {h : Heap} {H : Led} {I : Addr} {ty : String} {x : Str} {t : Tok} {i : Nat} (S : St h₀ h H) (hm : (I, siP ty x t i) ∈ H) : h.IsStrIter I ty x t i := by
  obtain ⟨o, e, h1, h2⟩ := S.led _ hm
  exact ⟨o, e, h1, h2⟩
theorem steps_list (w : World) (I l : Addr) (vs : List Value) : Steps w I (liP l) vs.length (fun i v => vs[i]? = some v) [(l, listP vs)] where
  item := fun i hi S hL k => by
    have hl := (S.plist (.tail _ (hL _ (.head _)))).isList
    refine wpAny_pyNext_list_item (x := vs[i]) (S.li (.head _)) hl (by simp [hi]) fun h' hit hs => ?_
    obtain ⟨o, e, r⟩ := hit
    exact k _ h' _ (by simp [hi]) (S.up .head hs ⟨o, e, r⟩)
  done := fun hh S hL k => by
    have hl := (S.plist (.tail _ (hL _ (.head _)))).isList
    exact wpAny_pyNext_list_end hh (S.li (.head _)) hl (by simp) fun h' hs => k h' _ (S.dropE hs)
  self := fun i S k => wpAny_pyIter_listiter (S.li (.head _)) k
theorem steps_range (w : World) (I : Addr) (x st : Int) (n : Nat) : Steps w I (fun i => riP (x + i * st) ((n : Int) - i) st) n (fun i v => ∃ t, v = .int (x + i * st) t) [] where
  item := fun i hi S hL k => by
    refine wpAny_pyNext_range_item (S.ri (.head _)) (by omega) fun h' hit hs => ?_
    have e1 : x + (i : Int) * st + st = x + ((i + 1 : Nat) : Int) * st := by push_cast; rw [Int.add_mul, Int.one_mul, Int.add_assoc]
    have e2 : (n : Int) - (i : Int) - 1 = (n : Int) - ((i + 1 : Nat) : Int) := by push_cast; omega
    rw [e1, e2] at hit
    exact k _ h' _ ⟨_, rfl⟩ (S.up .head hs ⟨_, hit, rfl⟩)
  done := fun hh S hL k => wpAny_pyNext_range_end hh (S.ri (.head _)) (by omega) fun h' hs => k h' _ (S.dropE hs)
  self := fun i S k => wpAny_pyIter_rangeiter (S.ri (.head _)) k
theorem steps_ascii (w : World) (I : Addr) (x : Str) (t : Tok) : Steps w I (siP "str_ascii_iterator" x t) x.cps.size (SignAt x) [] where
  item := fun i hi S hL k => by
    refine wpAny_pyNext_ascii_item (S.si (.head _)) (c := x.cps[i]) (by simp [hi]) fun h' hit hs => ?_
    obtain ⟨o, e, r⟩ := hit
    exact k _ h' _ ⟨_, _, by simp [hi], rfl⟩ (S.up .head hs ⟨o, e, r⟩)
  done := fun hh S hL k => wpAny_pyNext_ascii_end hh (S.si (.head _)) (by simp) fun h' hs => k h' _ (S.dropE hs)
  self := fun i S k => wpAny_pyIter_striter_ascii (S.si (.head _)) k
theorem steps_wide (w : World) (I : Addr) (x : Str) (t : Tok) : Steps w I (siP "str_iterator" x t) x.cps.size (SignAt x) [] where
  item := fun i hi S hL k => by
    refine wpAny_pyNext_wide_item (S.si (.head _)) (c := x.cps[i]) (by simp [hi]) fun h' hit hs => ?_
    obtain ⟨o, e, r⟩ := hit
    exact k _ h' _ ⟨_, _, by simp [hi], rfl⟩ (S.up .head hs ⟨o, e, r⟩)
  done := fun hh S hL k => wpAny_pyNext_wide_end hh (S.si (.head _)) (by simp) fun h' hs => k h' _ (S.dropE hs)
  self := fun i S k => wpAny_pyIter_striter_wide (S.si (.head _)) k
section
variable {w : World} {A : Around} {E : Value → Shared → Prop} {s : Shared} {t u : Tok} {h₀ : Gd} {H : Led} {env : Env}
theorem iter_list {l : Addr} {vs : List Value} {Q : Value → Shared → Prop} (S : St h₀ s.heap H) (hm : (l, listP vs) ∈ H)
    (k : ∀ I h', Steps w I (liP l) vs.length (fun i v => vs[i]? = some v) [(l, listP vs)] → St h₀ h' ((I, liP l 0) :: H) → Q (.ref I) { s with heap := h' }) : wpAny (model pw w) A (pyIter (.ref l)) Q E s :=
  wpAny_pyIter_list (S.plist hm).isList (k _ _ (steps_list w _ l vs) (S.push _ _ ⟨rfl, rfl⟩))
theorem iter_str {x : Str} {Q : Value → Shared → Prop} (S : St h₀ s.heap H)
    (k : ∀ I h' ip, Steps w I ip x.cps.size (SignAt x) [] → St h₀ h' ((I, ip 0) :: H) → Q (.ref I) { s with heap := h' }) : wpAny (model pw w) A (pyIter (.str x t)) Q E s := by
  cases ha : x.cps.all (· < 128)
  · exact wpAny_pyIter_wide ha (k _ _ _ (steps_wide w _ x t) (S.push _ _ ⟨rfl, rfl⟩))
  · exact wpAny_pyIter_ascii ha (k _ _ _ (steps_ascii w _ x t) (S.push _ _ ⟨rfl, rfl⟩))
end
end Mine
end
/-! text B7 -/
section
open PySem PySem.W PyProof.Rows PySem.Spec PySem.Calls PySem.SeqAt
set_option maxRecDepth 100000
set_option linter.unusedVariables false
set_option maxHeartbeats 1000000
namespace Mine
section
variable {w : World} {A : Around} {E : Value → Shared → Prop} {s : Shared} {t u : Tok} {h₀ : Gd} {H : Led} {env : Env}
theorem app_list {l : Addr} {vs : List Value} {x : Value} {Q : Value → Shared → Prop} {H' : Led} (S : St h₀ s.heap H) (up : Up l (listP vs) (listP (vs ++ [x])) H H') (hsz : vs.length ≤ sizeLine)
    (h : ∀ h', St h₀ h' H' → Q .none { s with heap := h' }) : wpAny (model pw w) A (call (.builtin "list.append") [.ref l, x]) Q E s := by
  refine wpAny_list_append_plain (S.plist up.mem) (fun h' hp hs => h h' (S.up up hs ?_)) (by rw [List.size_toArray]; exact hsz)
  obtain ⟨n2, e⟩ := hp
  refine ⟨_, e, n2, ?_⟩
  rw [List.push_toArray]
/-- one comprehension's turn, as the body's judgement -/
noncomputable abbrev testsOf (ifs : List PySem.Expr) (ce : Env) : Sem Bool := forIn ifs true fun c r => if r = true then do let ok ← isTrue c ce (eval c ce); pure (ForInStep.yield ok) else pure (ForInStep.yield r)
theorem lc_core {elt iter : PySem.Expr} {x : Str} {px : Pos} {ifs : List PySem.Expr} {scope : Scope} {cl : List (Str × Addr)} {pos : Pos} {I : Addr} {ip : Nat → PO} {n : Nat} {P : Nat → Value → Prop} {L : Led}
    (W : Steps w I ip n P L) (hh : A.handled = none) (hsz : n ≤ sizeLine) (R : Nat → List Value → Led → Prop) {RR : Value → Addr → Result → Shared → Prop}
    (hcell : ∀ y ∈ scope.names, y.2 ≠ .cell) (hkind : scope.kind = .function) (hx : scope.names.lookup x = some .local)
    (hL : ∀ i vs K, R i vs K → ∀ p ∈ L, p ∈ K) (S : St h₀ s.heap ((I, ip 0) :: H)) (h0 : R 0 [] H)
    (hturn : ∀ (i : Nat) (v : Value) (C D : Addr) (m : Str → Option Value) (K : Led) (vs : List Value) (hp : Heap) (tk : Nat) (E' : Value → Shared → Prop) (Qt : Value → Shared → Prop) (Qf : Shared → Prop),
      i < n → P i v → R i vs K → m x = some v → vs.length ≤ i → St h₀ hp ((C, nsP m) :: (I, ip (i + 1)) :: (D, listP vs) :: K) →
      (∀ y K' hp' tk', R (i + 1) (vs ++ [y]) K' → St h₀ hp' ((C, nsP m) :: (I, ip (i + 1)) :: (D, listP vs) :: K') → Qt y { s with heap := hp', toks := tk' }) →
      (∀ K' hp' tk', R (i + 1) vs K' → St h₀ hp' ((C, nsP m) :: (I, ip (i + 1)) :: (D, listP vs) :: K') → Qf { s with heap := hp', toks := tk' }) →
      wpAny (model pw w) A (testsOf ifs (compEnvC scope cl C env)) (fun ok s₄ => if ok = true then wpAny (model pw w) A (eval elt (compEnvC scope cl C env)) Qt E' s₄ else Qf s₄) E' { s with heap := hp, toks := tk })
    (hRR : ∀ D C m vs K hp tk, R n vs K → St h₀ hp ((C, nsP m) :: (D, listP vs) :: K) → RR (.ref D) C (.ok .next) { s with heap := hp, toks := tk }) :
    wpAny (model pw w) A (newList []) (fun acc s₃ => wpAny (model pw w) A (newFunctionEnv scope env.globals cl [] env.qual none .none (some env)) (fun cenv s₄ =>
      codeAny (model pw w) A (.compStart (.ListComp elt [⟨.Name x px, iter, ifs, 0⟩] scope pos) 0 (.ref I) acc { cenv with scope := relabel scope env }) (RR acc cenv.locals) s₄) E s₃) E s := by
  refine wpAny_newObj_type (wpAny_newFunctionEnv hcell (by intro y hy; simp at hy) (fun h₁ hns₁ hsb₁ => ?_) hkind)
  dsimp only at hns₁ hsb₁ ⊢
  have S1 := S.push { cls := .type "list", dict := none, data := .seq ([] : List Value).toArray } (listP []) ⟨0, rfl⟩
  generalize hD : s.heap.objs.size = D at S1 hns₁ hsb₁ ⊢
  generalize s.heap.push { cls := .type "list", dict := none, data := .seq ([] : List Value).toArray } = H2 at S1 hns₁ hsb₁ ⊢
  have S2 : St h₀ h₁ ((H2.objs.size, nsP fun _ => none) :: (D, listP []) :: (I, ip 0) :: H) := by
    refine S1.grow (new := [(H2.objs.size, nsP fun _ => none)]) (fun b o e => hsb₁.extBut b o (Nat.ne_of_lt (Heap.lt_size e)) (Heap.get?_push_of_some _ e)) (fun p hp => ?_) (List.pairwise_singleton ..)
    rw [List.mem_singleton.mp hp]
    exact ⟨Nat.le_refl _, nsP_of hns₁⟩
  generalize H2.objs.size = C at S2 ⊢
  have S3 : St h₀ h₁ ((C, nsP fun _ => none) :: (I, ip 0) :: (D, listP []) :: H) := S2.perm (.cons _ (.swap ..))
  have loop : codeAny (model pw w) A (.compLoop (.ListComp elt [⟨.Name x px, iter, ifs, 0⟩] scope pos) 0 (.ref I) (.ref D) (compEnvC scope cl C env)) (RR (.ref D) C) { s with heap := h₁, toks := s.toks + ([] : List (Str × Value)).length } := by
    refine codeAny_compLoop_tests (fun k s' => ∃ (i : Nat) (m : Str → Option Value) (K : Led) (vs : List Value) (hp : Heap) (tk : Nat), k = n - i ∧ i ≤ n ∧ s' = { s with heap := hp, toks := tk } ∧ St h₀ hp ((C, nsP m) :: (I, ip i) :: (D, listP vs) :: K) ∧ R i vs K ∧ vs.length ≤ i) ?_ n
      ⟨0, _, _, _, _, _, rfl, Nat.zero_le _, rfl, S3, h0, Nat.le_refl _⟩
    rintro k s' ⟨i, m, K, vs, hp, tk, rfl, hi, rfl, S', hR, hv⟩
    have hL' : ∀ p ∈ L, p ∈ ((C, nsP m) :: (D, listP vs) :: K : Led) := fun p hp => .tail _ (.tail _ (hL _ _ _ hR p hp))
    by_cases hlt : i < n
    · refine W.item i hlt S'.swap hL' fun v hp2 tk2 hP S2 => ?_
      refine wpAny_assign_Name ?_
      refine st_loc (x := x) S2.swap .head (fun hp3 tk3 S3 => ?_) (by show (relabel scope env).kind = .function; simp [relabel, hkind]) (lookup_relabel_local hx)
      refine hturn i v C D _ K vs hp3 tk3 _ _ _ hlt hP hR (if_pos rfl) hv S3 (fun y K' hp' tk' hR' S4 => ?_) fun K' hp' tk' hR' S4 => ?_
      · refine app_list S4 (.tail (.tail .head)) (by omega) fun h5 S5 => ?_
        exact ⟨n - (i + 1), by omega, i + 1, _, K', vs ++ [y], h5, _, rfl, hlt, rfl, S5, hR', by rw [List.length_append, List.length_singleton]; omega⟩
      · exact ⟨n - (i + 1), by omega, i + 1, _, K', vs, hp', tk', rfl, hlt, rfl, S4, hR', by omega⟩
    · have e : i = n := by omega
      subst e
      exact W.done hh S'.swap hL' fun hp2 tk2 S2 => hRR _ _ _ _ _ _ _ hR S2
  exact codeAny_compStart_list loop (W.self 0 S3.swap loop)

theorem lc {elt iter : PySem.Expr} {x : Str} {px : Pos} {ifs : List PySem.Expr} {scope : Scope} {cl : List (Str × Addr)} {pos : Pos} {Q : Value → Shared → Prop}
    (hclos : closureFor scope env = pure cl) (hh : A.handled = none)
    (h : wpAny (model pw w) A (eval iter env) (fun xv s₁ => wpAny (model pw w) A (pyIter xv) (fun it s₂ => ∃ (R : Nat → List Value → Led → Prop) (I : Addr) (ip : Nat → PO) (n : Nat) (P : Nat → Value → Prop) (L : Led) (h₀ : Gd) (H : Led), it = .ref I ∧ Steps w I ip n P L ∧ n ≤ sizeLine ∧
      (∀ i vs K, R i vs K → ∀ p ∈ L, p ∈ K) ∧ St h₀ s₂.heap ((I, ip 0) :: H) ∧ R 0 [] H ∧
      (∀ (i : Nat) (v : Value) (C D : Addr) (m : Str → Option Value) (K : Led) (vs : List Value) (hp : Heap) (tk : Nat) (E' : Value → Shared → Prop) (Qt : Value → Shared → Prop) (Qf : Shared → Prop),
        i < n → P i v → R i vs K → m x = some v → vs.length ≤ i → St h₀ hp ((C, nsP m) :: (I, ip (i + 1)) :: (D, listP vs) :: K) →
        (∀ y K' hp' tk', R (i + 1) (vs ++ [y]) K' → St h₀ hp' ((C, nsP m) :: (I, ip (i + 1)) :: (D, listP vs) :: K') → Qt y { s₂ with heap := hp', toks := tk' }) →
        (∀ K' hp' tk', R (i + 1) vs K' → St h₀ hp' ((C, nsP m) :: (I, ip (i + 1)) :: (D, listP vs) :: K') → Qf { s₂ with heap := hp', toks := tk' }) →
        wpAny (model pw w) A (testsOf ifs (compEnvC scope cl C env)) (fun ok s₄ => if ok = true then wpAny (model pw w) A (eval elt (compEnvC scope cl C env)) Qt E' s₄ else Qf s₄) E' { s₂ with heap := hp, toks := tk }) ∧
      (∀ D vs K hp tk, R n vs K → St h₀ hp ((D, listP vs) :: K) → Q (.ref D) { s₂ with heap := hp, toks := tk })) E s₁) E s)
    (hcell : ∀ y ∈ scope.names, y.2 ≠ .cell := by decide) (hkind : scope.kind = .function := by rfl)
    (hnames : ∀ y ∈ scope.names, y.2 = .local → scope.names.lookup y.1 = some .local := by decide) (hx : scope.names.lookup x = some .local := by rfl)
    (hs : ∀ x, foldedSetIterable iter env x = pure x := by intro _; rfl) :
    wpAny (model pw w) A (eval (.ListComp elt [⟨.Name x px, iter, ifs, 0⟩] scope pos) env) Q E s := by
  rw [eval_ListComp]
  refine wpAny_comprehension_free (use := none) rfl hs hclos hkind hnames (wpAny_mono h (fun xv s₁ h₁ => wpAny_mono h₁ (fun it s₂ h₂ => ?_) fun _ _ e => e) fun _ _ e => e)
  obtain ⟨R, I, ip, n, P, L, h₀, H, rfl, W, hsz, hL, S, h0, hturn, hQ⟩ := h₂
  refine lc_core (RR := fun acc C => compPost (model pw w) A E none Q acc C) W hh hsz R hcell hkind hx hL S h0 hturn ?_
  intro D C m vs K hp tk hR S'
  obtain ⟨o, es, ep, e, h1, h2⟩ := S'.ns (.head _)
  exact ⟨m, ⟨o, es, ep, e, h1, h2⟩, fun h'' hs'' => hQ D vs K h'' tk hR (S'.dropE hs''.extBut)⟩

/-- y = [elt for x in iter ...], the name swapped in on the same line -/
theorem lcA {elt iter : PySem.Expr} {x y : Str} {px py : Pos} {ifs : List PySem.Expr} {scope : Scope} {cl : List (Str × Addr)} {pos spos : Pos} {Q : Flow → Shared → Prop}
    (hsw : swapsWith (.ListComp elt [⟨.Name x px, iter, ifs, 0⟩] scope pos) (some (.Name y py)) spos.line env = pure true)
    (hclos : closureFor scope env = pure cl) (hh : A.handled = none)
    (h : wpAny (model pw w) A (eval iter env) (fun xv s₁ => wpAny (model pw w) A (pyIter xv) (fun it s₂ => ∃ (R : Nat → List Value → Led → Prop) (I : Addr) (ip : Nat → PO) (n : Nat) (P : Nat → Value → Prop) (L : Led) (h₀ : Gd) (H : Led), it = .ref I ∧ Steps w I ip n P L ∧ n ≤ sizeLine ∧
      (∀ i vs K, R i vs K → ∀ p ∈ L, p ∈ K) ∧ St h₀ s₂.heap ((I, ip 0) :: H) ∧ R 0 [] H ∧
      (∀ (i : Nat) (v : Value) (C D : Addr) (m : Str → Option Value) (K : Led) (vs : List Value) (hp : Heap) (tk : Nat) (E' : Value → Shared → Prop) (Qt : Value → Shared → Prop) (Qf : Shared → Prop),
        i < n → P i v → R i vs K → m x = some v → vs.length ≤ i → St h₀ hp ((C, nsP m) :: (I, ip (i + 1)) :: (D, listP vs) :: K) →
        (∀ y K' hp' tk', R (i + 1) (vs ++ [y]) K' → St h₀ hp' ((C, nsP m) :: (I, ip (i + 1)) :: (D, listP vs) :: K') → Qt y { s₂ with heap := hp', toks := tk' }) →
        (∀ K' hp' tk', R (i + 1) vs K' → St h₀ hp' ((C, nsP m) :: (I, ip (i + 1)) :: (D, listP vs) :: K') → Qf { s₂ with heap := hp', toks := tk' }) →
        wpAny (model pw w) A (testsOf ifs (compEnvC scope cl C env)) (fun ok s₄ => if ok = true then wpAny (model pw w) A (eval elt (compEnvC scope cl C env)) Qt E' s₄ else Qf s₄) E' { s₂ with heap := hp, toks := tk }) ∧
      (∀ vs K, R n vs K → ∃ (m : Str → Option Value) (K' : Addr → Led), ∀ D, Up env.locals (nsP m) (nsP fun z => if z = y then some (.ref D) else m z) K (K' D) ∧
        (∀ hp tk, St h₀ hp ((D, listP vs) :: K' D) → Q .next { s₂ with heap := hp, toks := tk }))) E s₁) E s)
    (hy : env.kindOf y = some .local := by rfl) (hke : env.scope.kind = .function := by rfl)
    (hcell : ∀ y ∈ scope.names, y.2 ≠ .cell := by decide) (hkind : scope.kind = .function := by rfl)
    (hnames : ∀ y ∈ scope.names, y.2 = .local → scope.names.lookup y.1 = some .local := by decide) (hx : scope.names.lookup x = some .local := by rfl)
    (hs : ∀ x, foldedSetIterable iter env x = pure x := by intro _; rfl) :
    wpAny (model pw w) A (exec (.Assign [.Name y py] (.ListComp elt [⟨.Name x px, iter, ifs, 0⟩] scope pos) spos) env) Q E s := by
  rw [exec_Assign_Name_used _ _ _ _ hsw]
  refine wpAny_bind (wpAny_standAt (wpAny_bind ?_))
  show wpAny _ A (do let _ ← comprehension (.ListComp elt [⟨.Name x px, iter, ifs, 0⟩] scope pos) scope env _ (newList []) false (eval iter env) (some (assign (.Name y py) env))) _ _ s
  refine wpAny_bind (wpAny_mono (wpAny_comprehension_free (use := some (assign (.Name y py) env)) (Q := fun _ s' => Q .next s') rfl hs hclos hkind hnames
    (wpAny_mono h (fun xv s₁ h₁ => wpAny_mono h₁ (fun it s₂ h₂ => ?_) fun _ _ e => e) fun _ _ e => e)) (fun _ s' hq => wpAny_pure (wpAny_pure hq)) fun _ _ e => e)
  obtain ⟨R, I, ip, n, P, L, h₀, H, rfl, W, hsz, hL, S, h0, hturn, hQ⟩ := h₂
  refine lc_core (RR := fun acc C => compPost (model pw w) A E (some (assign (.Name y py) env)) (fun _ s' => Q .next s') acc C) W hh hsz R hcell hkind hx hL S h0 hturn ?_
  intro D C m vs K hp tk hR S'
  obtain ⟨m', K', hU⟩ := hQ vs K hR
  obtain ⟨up, hq⟩ := hU D
  show wpAny _ A (assign (.Name y py) env (.ref D)) _ _ _
  refine wpAny_assign_Name ?_
  refine st_loc (x := y) S' (.tail (.tail up)) (fun h3 tk3 S3 => ?_) hke hy
  exact ⟨m, S3.ns (.head _), fun h'' hs'' => hq h'' _ (S3.dropE hs''.extBut)⟩
theorem no_tests {ce : Env} {Q : Bool → Shared → Prop} (h : Q true s) : wpAny (model pw w) A (testsOf [] ce) Q E s := wpAny_pure h
theorem one_test {c : PySem.Expr} {ce : Env} {Q : Bool → Shared → Prop} (h : wpAny (model pw w) A (isTrue c ce (eval c ce)) Q E s) : wpAny (model pw w) A (testsOf [c] ce) Q E s := by
  unfold testsOf
  simp only [List.forIn_cons, List.forIn_nil, if_true]
  exact wpAny_bind (wpAny_bind (wpAny_mono h (fun b s' hb => wpAny_pure (wpAny_pure hb)) fun _ _ x => x))
end
end Mine
end
/-! text B8 -/
section
open PySem PySem.W PyProof.Rows PySem.Spec PySem.Calls PySem.SeqAt
set_option maxRecDepth 100000
set_option linter.unusedVariables false
set_option maxHeartbeats 1000000
namespace Mine
section
variable {w : World} {A : Around} {E : Value → Shared → Prop} {s : Shared} {t u : Tok} {h₀ : Gd} {H : Led} {env : Env}
theorem turn2_0 (elt t1 it1 t2 it2 : PySem.Expr) (scope : Scope) (pos : Pos) (it acc : Value) (env : Env) :
    compTurn (.ListComp elt [⟨t1, it1, [], 0⟩, ⟨t2, it2, [], 0⟩] scope pos) 0 it acc env = (do
      standAt it1.pos
      match ← pyNext it with
      | none => pure (.done .next)
      | some v =>
        letOwnedTupleGo t1 it v
        assign t1 env v
        let x ← eval it2 env
        standAt it2.pos
        let x ← foldedSetIterable it2 env x
        let _ ← runOwn (.compStart (.ListComp elt [⟨t1, it1, [], 0⟩, ⟨t2, it2, [], 0⟩] scope pos) 1 (← holding [x] (pyIter x)) acc env) env
        again (.compLoop (.ListComp elt [⟨t1, it1, [], 0⟩, ⟨t2, it2, [], 0⟩] scope pos) 0 it acc env)) := by rfl
theorem turn2_1 (elt t1 it1 t2 it2 : PySem.Expr) (scope : Scope) (pos : Pos) (it acc : Value) (env : Env) :
    compTurn (.ListComp elt [⟨t1, it1, [], 0⟩, ⟨t2, it2, [], 0⟩] scope pos) 1 it acc env = (do
      standAt it2.pos
      match ← pyNext it with
      | none => pure (.done .next)
      | some v =>
        letOwnedTupleGo t2 it v
        assign t2 env v
        (do let _ ← call (.builtin "list.append") [acc, ← eval elt env])
        again (.compLoop (.ListComp elt [⟨t1, it1, [], 0⟩, ⟨t2, it2, [], 0⟩] scope pos) 1 it acc env)) := by rfl
theorem start2_1 {R : Result → Shared → Prop} {elt t1 it1 t2 it2 : PySem.Expr} {scope : Scope} {pos : Pos} {it acc : Value}
    (h0 : codeAny (model pw w) A (.compLoop (.ListComp elt [⟨t1, it1, [], 0⟩, ⟨t2, it2, [], 0⟩] scope pos) 1 it acc env) R s)
    (h : wpAny (model pw w) A (pyIter it) (fun it' s' => codeAny (model pw w) A (.compLoop (.ListComp elt [⟨t1, it1, [], 0⟩, ⟨t2, it2, [], 0⟩] scope pos) 1 it' acc env) R s')
      (notedBy (model pw w) A env fun x s' => R (.error x) s') s) :
    codeAny (model pw w) A (.compStart (.ListComp elt [⟨t1, it1, [], 0⟩, ⟨t2, it2, [], 0⟩] scope pos) 1 it acc env) R s := by
  refine codeAny_of_tree ?_
  show wpAny _ _ ((compStart (.ListComp elt [⟨t1, it1, [], 0⟩, ⟨t2, it2, [], 0⟩] scope pos) 1 it acc env).onRaise (fun x => do noteFrame x env; standAt theWindowsPlace)) _ _ s
  refine wpAny_notedAt ?_
  unfold compStart
  show wpAny _ _ (ask >>= _) _ _ s
  refine wpAny_bind (wpAny_askSetting (wpAny_ite ?_))
  split
  · first
      | exact wpAny_bind (wpAny_pure (wpAny_pure (And.intro rfl h0)))
      | exact wpAny_pure (And.intro rfl h0)
  · first
      | exact wpAny_bind (wpAny_rule (wpAny_bind (wpAny_standAt (wpAny_bind (wpAny_mono h (fun it' s' h' => wpAny_pure (And.intro rfl h')) fun _ _ x => x)))))
      | (refine wpAny_bind (wpAny_rule ?_); show wpAny _ _ (standAt it2.pos >>= _) _ _ s; exact wpAny_bind (wpAny_standAt (wpAny_bind (wpAny_mono h (fun it' s' h' => wpAny_pure (And.intro rfl h')) fun _ _ x => x))))
/-- what the inner loop's turn is asked -/
noncomputable def Inner (w : World) (h₀ : Gd) (H : Led) (s : Shared) (elt : PySem.Expr) (ce : Env) (x1 x2 : Str) (v1 : Value) (C D : Addr) (e : Addr × PO) (I2 : Addr) (ip2 : Nat → PO) (n2 : Nat) (P2 : Nat → Value → Prop) (R : Nat → List Value → Prop) : Prop :=
  ∀ {A : Around} (j : Nat) (v2 : Value) (m2 : Str → Option Value) (vs : List Value) (hp : Heap) (tk : Nat) (E : Value → Shared → Prop) (Q : Value → Shared → Prop),
    j < n2 → P2 j v2 → R j vs → m2 x2 = some v2 → (x1 ≠ x2 → m2 x1 = some v1) → St h₀ hp ((C, nsP m2) :: (I2, ip2 (j + 1)) :: e :: (D, listP vs) :: H) →
    (∀ y hp' tk', R (j + 1) (vs ++ [y]) → St h₀ hp' ((C, nsP m2) :: (I2, ip2 (j + 1)) :: e :: (D, listP vs) :: H) → Q y { s with heap := hp', toks := tk' }) →
    wpAny (model pw w) A (eval elt ce) Q E { s with heap := hp, toks := tk }
theorem inner_loop {R₀ : Result → Shared → Prop} {elt it1 it2 : PySem.Expr} {x1 x2 : Str} {px1 px2 : Pos} {scope : Scope} {pos : Pos} {ce : Env} {C D I2 : Addr} {e : Addr × PO} {ip2 : Nat → PO} {n2 : Nat} {P2 : Nat → Value → Prop} {v1 : Value} {m : Str → Option Value} {vs : List Value}
    {R : Nat → List Value → Prop} {hp : Heap} {tk : Nat} (hce : ce.locals = C) (hk : ce.scope.kind = .function) (hx2 : ce.kindOf x2 = some .local) (hh : A.handled = none) (hne : x1 ≠ x2)
    (W : Steps w I2 ip2 n2 P2 []) (S : St h₀ hp ((C, nsP m) :: (I2, ip2 0) :: e :: (D, listP vs) :: H)) (hm : m x1 = some v1) (h0 : R 0 vs) (hb : ∀ j vs, R j vs → vs.length ≤ 1000)
    (Tn : Inner w h₀ H s elt ce x1 x2 v1 C D e I2 ip2 n2 P2 R)
    (hR : ∀ m' vs' hp' tk', m' x1 = some v1 → R n2 vs' → St h₀ hp' ((C, nsP m') :: e :: (D, listP vs') :: H) → R₀ (.ok .next) { s with heap := hp', toks := tk' }) :
    codeAny (model pw w) A (.compStart (.ListComp elt [⟨.Name x1 px1, it1, [], 0⟩, ⟨.Name x2 px2, it2, [], 0⟩] scope pos) 1 (.ref I2) (.ref D) ce) R₀ { s with heap := hp, toks := tk } := by
  have loop : codeAny (model pw w) A (.compLoop (.ListComp elt [⟨.Name x1 px1, it1, [], 0⟩, ⟨.Name x2 px2, it2, [], 0⟩] scope pos) 1 (.ref I2) (.ref D) ce) R₀ { s with heap := hp, toks := tk } := by
    refine codeAny_loop rfl (fun k s' => ∃ (j : Nat) (m' : Str → Option Value) (vs' : List Value) (hp' : Heap) (tk' : Nat), k = n2 - j ∧ j ≤ n2 ∧ s' = { s with heap := hp', toks := tk' } ∧ m' x1 = some v1 ∧ R j vs' ∧ St h₀ hp' ((C, nsP m') :: (I2, ip2 j) :: e :: (D, listP vs') :: H)) (fun k s' hI => ?_) n2
      ⟨0, m, vs, hp, tk, rfl, Nat.zero_le _, rfl, hm, h0, S⟩
    show wpAny _ A ((compTurn (.ListComp elt [⟨.Name x1 px1, it1, [], 0⟩, ⟨.Name x2 px2, it2, [], 0⟩] scope pos) 1 (.ref I2) (.ref D) ce).onRaise (fun x => do noteFrame x ce; theTreesLotGoes x)) _ _ s'
    refine wpAny_noted ?_
    rw [turn2_1]
    obtain ⟨j, m', vs', hp', tk', rfl, hj, rfl, hm', hR', S'⟩ := hI
    refine wpAny_bind (wpAny_standAt (wpAny_bind ?_))
    by_cases hlt : j < n2
    · refine W.item j hlt S'.swap (fun _ hp => nomatch hp) fun v hp2 tk2 hP S2 => ?_
      refine wpAny_bind (wpAny_of_eq (by rfl) ?_)
      refine wpAny_bind (wpAny_assign_Name ?_)
      subst hce
      refine st_loc (x := x2) S2.swap .head (fun hp3 tk3 S3 => ?_) hk hx2
      refine wpAny_bind (wpAny_bind ?_)
      refine Tn j v _ vs' hp3 tk3 _ _ hlt hP hR' (if_pos rfl) (fun _ => (if_neg hne).trans hm') S3 fun y hp4 tk4 hR4 S4 => ?_
      refine wpAny_bind ?_
      refine app_list S4 (.tail (.tail (.tail .head))) (Nat.le_trans (hb _ _ hR') (by decide)) fun h5 S5 => ?_
      exact wpAny_pure (wpAny_pure ⟨rfl, n2 - (j + 1), by omega, j + 1, _, _, h5, _, rfl, hlt, rfl, (if_neg hne).trans hm', hR4, S5⟩)
    · have e' : j = n2 := by omega
      subst e'
      exact W.done hh S'.swap (fun _ hp => nomatch hp) fun hp2 tk2 S2 => wpAny_pure (hR _ _ _ _ hm' hR' S2)
  exact start2_1 loop (W.self 0 S.swap loop)
end
end Mine
end
/-! text B9 -/
section
open PySem PySem.W PyProof.Rows PySem.Spec PySem.Calls PySem.SeqAt
set_option maxRecDepth 100000
set_option linter.unusedVariables false
set_option maxHeartbeats 1000000
namespace Mine
section
variable {w : World} {A : Around} {E : Value → Shared → Prop} {s : Shared} {t u : Tok} {h₀ : Gd} {H : Led} {env : Env}
theorem mark_handled {A : Around} (hh : A.handled = none) : (A.mark none).handled = none := hh

/-- two generators, no tests -/
theorem lc2_core {elt it1 it2 : PySem.Expr} {x1 x2 : Str} {px1 px2 : Pos} {scope : Scope} {cl : List (Str × Addr)} {pos : Pos} {RR : Value → Addr → Result → Shared → Prop} {I : Addr} {ip : Nat → PO} {n : Nat} {P : Nat → Value → Prop} {L : Led}
    (W : Steps w I ip n P L) (hh : A.handled = none) (R : Nat → Nat → List Value → Prop) (hL : ∀ p ∈ L, p ∈ H) (S : St h₀ s.heap ((I, ip 0) :: H)) (h0 : R 0 0 []) (hb : ∀ i j vs, R i j vs → vs.length ≤ 1000)
    (hturn : ∀ (A' : Around) (i : Nat) (v : Value) (C D : Addr) (m : Str → Option Value) (vs : List Value) (hp : Heap) (tk : Nat) (E' : Value → Shared → Prop) (Q' : Value → Shared → Prop), A'.handled = none →
        i < n → P i v → R i 0 vs → m x1 = some v → St h₀ hp ((C, nsP m) :: (I, ip (i + 1)) :: (D, listP vs) :: H) →
        (∀ I2 ip2 n2 P2 hp' tk', Steps w I2 ip2 n2 P2 [] → St h₀ hp' ((C, nsP m) :: (I2, ip2 0) :: (I, ip (i + 1)) :: (D, listP vs) :: H) → Inner w h₀ H s elt (compEnvC scope cl C env) x1 x2 v C D (I, ip (i + 1)) I2 ip2 n2 P2 (R i) →
          (∀ vs, R i n2 vs → R (i + 1) 0 vs) → Q' (.ref I2) { s with heap := hp', toks := tk' }) →
        wpAny (model pw w) A' (eval it2 (compEnvC scope cl C env)) (fun xv s₃ => wpAny (model pw w) A' (pyIter xv) Q' E' s₃) E' { s with heap := hp, toks := tk })
    (hRR : ∀ D C m vs hp tk, R n 0 vs → St h₀ hp ((C, nsP m) :: (D, listP vs) :: H) → RR (.ref D) C (.ok .next) { s with heap := hp, toks := tk })
    (hne : x1 ≠ x2) (hcell : ∀ y ∈ scope.names, y.2 ≠ .cell) (hkind : scope.kind = .function) (hx1 : scope.names.lookup x1 = some .local) (hx2 : scope.names.lookup x2 = some .local)
    (hs2 : ∀ ce x, foldedSetIterable it2 ce x = pure x) :
    wpAny (model pw w) A (newList []) (fun acc s₃ => wpAny (model pw w) A (newFunctionEnv scope env.globals cl [] env.qual none .none (some env)) (fun cenv s₄ =>
      codeAny (model pw w) A (.compStart (.ListComp elt [⟨.Name x1 px1, it1, [], 0⟩, ⟨.Name x2 px2, it2, [], 0⟩] scope pos) 0 (.ref I) acc { cenv with scope := relabel scope env }) (RR acc cenv.locals) s₄) E s₃) E s := by
  refine wpAny_newObj_type (wpAny_newFunctionEnv hcell (by intro y hy; simp at hy) (fun h₁ hns₁ hsb₁ => ?_) hkind)
  dsimp only at hns₁ hsb₁ ⊢
  have S1 := S.push { cls := .type "list", dict := none, data := .seq ([] : List Value).toArray } (listP []) ⟨0, rfl⟩
  generalize hD : s.heap.objs.size = D at S1 hns₁ hsb₁ ⊢
  generalize s.heap.push { cls := .type "list", dict := none, data := .seq ([] : List Value).toArray } = H2 at S1 hns₁ hsb₁ ⊢
  have S2 : St h₀ h₁ ((H2.objs.size, nsP fun _ => none) :: (D, listP []) :: (I, ip 0) :: H) := by
    refine S1.grow (new := [(H2.objs.size, nsP fun _ => none)]) (fun b o e => hsb₁.extBut b o (Nat.ne_of_lt (Heap.lt_size e)) (Heap.get?_push_of_some _ e)) (fun p hp => ?_) (List.pairwise_singleton ..)
    rw [List.mem_singleton.mp hp]
    exact ⟨Nat.le_refl _, nsP_of hns₁⟩
  generalize H2.objs.size = C at S2 ⊢
  have S3 : St h₀ h₁ ((C, nsP fun _ => none) :: (I, ip 0) :: (D, listP []) :: H) := S2.perm (.cons _ (.swap ..))
  have loop : codeAny (model pw w) A (.compLoop (.ListComp elt [⟨.Name x1 px1, it1, [], 0⟩, ⟨.Name x2 px2, it2, [], 0⟩] scope pos) 0 (.ref I) (.ref D) (compEnvC scope cl C env)) (RR (.ref D) C) { s with heap := h₁, toks := s.toks + ([] : List (Str × Value)).length } := by
    refine codeAny_loop rfl (fun k s' => ∃ (i : Nat) (m : Str → Option Value) (vs : List Value) (hp : Heap) (tk : Nat), k = n - i ∧ i ≤ n ∧ s' = { s with heap := hp, toks := tk } ∧ St h₀ hp ((C, nsP m) :: (I, ip i) :: (D, listP vs) :: H) ∧ R i 0 vs) (fun k s' hI => ?_) n
      ⟨0, _, _, _, _, rfl, Nat.zero_le _, rfl, S3, h0⟩
    show wpAny _ A ((compTurn (.ListComp elt [⟨.Name x1 px1, it1, [], 0⟩, ⟨.Name x2 px2, it2, [], 0⟩] scope pos) 0 (.ref I) (.ref D) (compEnvC scope cl C env)).onRaise (fun x => do noteFrame x (compEnvC scope cl C env); theTreesLotGoes x)) _ _ s'
    refine wpAny_noted ?_
    rw [turn2_0]
    obtain ⟨i, m, vs, hp, tk, rfl, hi, rfl, S', hR⟩ := hI
    have hL' : ∀ p ∈ L, p ∈ ((C, nsP m) :: (D, listP vs) :: H : Led) := fun p hp => .tail _ (.tail _ (hL p hp))
    refine wpAny_bind (wpAny_standAt (wpAny_bind ?_))
    by_cases hlt : i < n
    · refine W.item i hlt S'.swap hL' fun v hp2 tk2 hP S2 => ?_
      refine wpAny_bind (wpAny_of_eq (by rfl) ?_)
      refine wpAny_bind (wpAny_assign_Name ?_)
      refine st_loc (x := x1) S2.swap .head (fun hp3 tk3 S3 => ?_) (by show (relabel scope env).kind = .function; simp [relabel, hkind]) (lookup_relabel_local hx1)
      refine wpAny_bind (wpAny_mono (hturn A i v C D _ vs hp3 tk3 (notedBy (model pw w) A (compEnvC scope cl C env) fun e s' => RR (.ref D) C (.error e) s') (fun it s₄ => wpAny (model pw w) A (runOwn (.compStart (.ListComp elt [⟨.Name x1 px1, it1, [], 0⟩, ⟨.Name x2 px2, it2, [], 0⟩] scope pos) 1 it (.ref D) (compEnvC scope cl C env)) (compEnvC scope cl C env)) (fun _ s₅ => ∃ (m' : Str → Option Value) (vs' : List Value) (hp : Heap) (tk : Nat), s₅ = { s with heap := hp, toks := tk } ∧ St h₀ hp ((C, nsP m') :: (I, ip (i + 1)) :: (D, listP vs') :: H) ∧ R (i + 1) 0 vs') (notedBy (model pw w) A (compEnvC scope cl C env) fun e s' => RR (.ref D) C (.error e) s') s₄) hh hlt hP hR (if_pos rfl) S3 (fun I2 ip2 n2 P2 hp4 tk4 W2 S4 Tn hR2 => ?_)) (fun xv s₃ h₃ => ?_) fun _ _ e => e)
      · refine wpAny_runOwn ?_
        refine inner_loop (R := R i) rfl (by show (relabel scope env).kind = .function; simp [relabel, hkind]) (lookup_relabel_local hx2) (mark_handled hh) hne W2 S4 (if_pos rfl) hR (fun j vs h => hb i j vs h) Tn fun m' vs' hp' tk' _ hR' S5 => ?_
        exact ⟨m', vs', hp', tk', rfl, S5, hR2 _ hR'⟩
      · refine wpAny_bind (wpAny_standAt (wpAny_bind (wpAny_of_eq (hs2 _ _) (wpAny_bind (wpAny_holding (wpAny_mono h₃ (fun it s₄ h₄ => ?_) fun _ _ e => e))))))
        refine wpAny_bind (wpAny_mono h₄ (fun _ s₅ h₅ => ?_) fun _ _ e => e)
        obtain ⟨m', vs', hp5, tk5, rfl, S5, hR5⟩ := h₅
        exact wpAny_pure ⟨rfl, n - (i + 1), by omega, i + 1, m', vs', hp5, tk5, rfl, hlt, rfl, S5, hR5⟩
    · have e' : i = n := by omega
      subst e'
      refine W.done hh S'.swap hL' fun hp2 tk2 S2 => wpAny_pure ?_
      exact hRR _ _ _ _ _ _ hR S2
  exact codeAny_compStart_list loop (W.self 0 S3.swap loop)
theorem lc2 {elt it1 it2 : PySem.Expr} {x1 x2 : Str} {px1 px2 : Pos} {scope : Scope} {cl : List (Str × Addr)} {pos : Pos} {Q : Value → Shared → Prop}
    (hclos : closureFor scope env = pure cl) (hh : A.handled = none) (R : Nat → Nat → List Value → Prop)
    (h : wpAny (model pw w) A (eval it1 env) (fun xv s₁ => wpAny (model pw w) A (pyIter xv) (fun it s₂ => ∃ (I : Addr) (ip : Nat → PO) (n : Nat) (P : Nat → Value → Prop) (L : Led) (h₀ : Gd) (H : Led), it = .ref I ∧ Steps w I ip n P L ∧
      (∀ p ∈ L, p ∈ H) ∧ St h₀ s₂.heap ((I, ip 0) :: H) ∧ R 0 0 [] ∧ (∀ i j vs, R i j vs → vs.length ≤ 1000) ∧
      (∀ (A' : Around) (i : Nat) (v : Value) (C D : Addr) (m : Str → Option Value) (vs : List Value) (hp : Heap) (tk : Nat) (E' : Value → Shared → Prop) (Q' : Value → Shared → Prop), A'.handled = none →
        i < n → P i v → R i 0 vs → m x1 = some v → St h₀ hp ((C, nsP m) :: (I, ip (i + 1)) :: (D, listP vs) :: H) →
        (∀ I2 ip2 n2 P2 hp' tk', Steps w I2 ip2 n2 P2 [] → St h₀ hp' ((C, nsP m) :: (I2, ip2 0) :: (I, ip (i + 1)) :: (D, listP vs) :: H) → Inner w h₀ H s₂ elt (compEnvC scope cl C env) x1 x2 v C D (I, ip (i + 1)) I2 ip2 n2 P2 (R i) →
          (∀ vs, R i n2 vs → R (i + 1) 0 vs) → Q' (.ref I2) { s₂ with heap := hp', toks := tk' }) →
        wpAny (model pw w) A' (eval it2 (compEnvC scope cl C env)) (fun xv s₃ => wpAny (model pw w) A' (pyIter xv) Q' E' s₃) E' { s₂ with heap := hp, toks := tk }) ∧
      (∀ D vs hp tk, R n 0 vs → St h₀ hp ((D, listP vs) :: H) → Q (.ref D) { s₂ with heap := hp, toks := tk })) E s₁) E s)
    (hne : x1 ≠ x2 := by decide)
    (hcell : ∀ y ∈ scope.names, y.2 ≠ .cell := by decide) (hkind : scope.kind = .function := by rfl)
    (hnames : ∀ y ∈ scope.names, y.2 = .local → scope.names.lookup y.1 = some .local := by decide) (hx1 : scope.names.lookup x1 = some .local := by rfl) (hx2 : scope.names.lookup x2 = some .local := by rfl)
    (hs : ∀ x, foldedSetIterable it1 env x = pure x := by intro _; rfl) (hs2 : ∀ ce x, foldedSetIterable it2 ce x = pure x := by intro _ _; rfl) :
    wpAny (model pw w) A (eval (.ListComp elt [⟨.Name x1 px1, it1, [], 0⟩, ⟨.Name x2 px2, it2, [], 0⟩] scope pos) env) Q E s := by
  rw [eval_ListComp]
  refine wpAny_comprehension_free (use := none) rfl hs hclos hkind hnames (wpAny_mono h (fun xv s₁ h₁ => wpAny_mono h₁ (fun it s₂ h₂ => ?_) fun _ _ e => e) fun _ _ e => e)
  obtain ⟨I, ip, n, P, L, h₀, H, rfl, W, hL, S, h0, hb, hturn, hQ⟩ := h₂
  refine lc2_core (RR := fun acc C => compPost (model pw w) A E none Q acc C) W hh R hL S h0 hb hturn ?_ hne hcell hkind hx1 hx2 hs2
  intro D C m vs hp tk hR S'
  exact ⟨m, S'.ns (.head _), fun h'' hs'' => hQ D vs h'' tk hR (S'.dropE hs''.extBut)⟩
theorem lc2A {elt it1 it2 : PySem.Expr} {x1 x2 y : Str} {px1 px2 py : Pos} {scope : Scope} {cl : List (Str × Addr)} {pos spos : Pos} {Q : Flow → Shared → Prop}
    (hsw : swapsWith (.ListComp elt [⟨.Name x1 px1, it1, [], 0⟩, ⟨.Name x2 px2, it2, [], 0⟩] scope pos) (some (.Name y py)) spos.line env = pure true)
    (hclos : closureFor scope env = pure cl) (hh : A.handled = none) (R : Nat → Nat → List Value → Prop)
    (h : wpAny (model pw w) A (eval it1 env) (fun xv s₁ => wpAny (model pw w) A (pyIter xv) (fun it s₂ => ∃ (I : Addr) (ip : Nat → PO) (n : Nat) (P : Nat → Value → Prop) (L : Led) (h₀ : Gd) (H : Led), it = .ref I ∧ Steps w I ip n P L ∧
      (∀ p ∈ L, p ∈ H) ∧ St h₀ s₂.heap ((I, ip 0) :: H) ∧ R 0 0 [] ∧ (∀ i j vs, R i j vs → vs.length ≤ 1000) ∧
      (∀ (A' : Around) (i : Nat) (v : Value) (C D : Addr) (m : Str → Option Value) (vs : List Value) (hp : Heap) (tk : Nat) (E' : Value → Shared → Prop) (Q' : Value → Shared → Prop), A'.handled = none →
        i < n → P i v → R i 0 vs → m x1 = some v → St h₀ hp ((C, nsP m) :: (I, ip (i + 1)) :: (D, listP vs) :: H) →
        (∀ I2 ip2 n2 P2 hp' tk', Steps w I2 ip2 n2 P2 [] → St h₀ hp' ((C, nsP m) :: (I2, ip2 0) :: (I, ip (i + 1)) :: (D, listP vs) :: H) → Inner w h₀ H s₂ elt (compEnvC scope cl C env) x1 x2 v C D (I, ip (i + 1)) I2 ip2 n2 P2 (R i) →
          (∀ vs, R i n2 vs → R (i + 1) 0 vs) → Q' (.ref I2) { s₂ with heap := hp', toks := tk' }) →
        wpAny (model pw w) A' (eval it2 (compEnvC scope cl C env)) (fun xv s₃ => wpAny (model pw w) A' (pyIter xv) Q' E' s₃) E' { s₂ with heap := hp, toks := tk }) ∧
      (∀ vs, R n 0 vs → ∃ (m : Str → Option Value) (K' : Addr → Led), ∀ D, Up env.locals (nsP m) (nsP fun z => if z = y then some (.ref D) else m z) H (K' D) ∧
        (∀ hp tk, St h₀ hp ((D, listP vs) :: K' D) → Q .next { s₂ with heap := hp, toks := tk }))) E s₁) E s)
    (hy : env.kindOf y = some .local := by rfl) (hke : env.scope.kind = .function := by rfl)
    (hne : x1 ≠ x2 := by decide)
    (hcell : ∀ y ∈ scope.names, y.2 ≠ .cell := by decide) (hkind : scope.kind = .function := by rfl)
    (hnames : ∀ y ∈ scope.names, y.2 = .local → scope.names.lookup y.1 = some .local := by decide) (hx1 : scope.names.lookup x1 = some .local := by rfl) (hx2 : scope.names.lookup x2 = some .local := by rfl)
    (hs : ∀ x, foldedSetIterable it1 env x = pure x := by intro _; rfl) (hs2 : ∀ ce x, foldedSetIterable it2 ce x = pure x := by intro _ _; rfl) :
    wpAny (model pw w) A (exec (.Assign [.Name y py] (.ListComp elt [⟨.Name x1 px1, it1, [], 0⟩, ⟨.Name x2 px2, it2, [], 0⟩] scope pos) spos) env) Q E s := by
  rw [exec_Assign_Name_used _ _ _ _ hsw]
  refine wpAny_bind (wpAny_standAt (wpAny_bind ?_))
  show wpAny _ A (do let _ ← comprehension (.ListComp elt [⟨.Name x1 px1, it1, [], 0⟩, ⟨.Name x2 px2, it2, [], 0⟩] scope pos) scope env _ (newList []) false (eval it1 env) (some (assign (.Name y py) env))) _ _ s
  refine wpAny_bind (wpAny_mono (wpAny_comprehension_free (use := some (assign (.Name y py) env)) (Q := fun _ s' => Q .next s') rfl hs hclos hkind hnames
    (wpAny_mono h (fun xv s₁ h₁ => wpAny_mono h₁ (fun it s₂ h₂ => ?_) fun _ _ e => e) fun _ _ e => e)) (fun _ s' hq => wpAny_pure (wpAny_pure hq)) fun _ _ e => e)
  obtain ⟨I, ip, n, P, L, h₀, H, rfl, W, hL, S, h0, hb, hturn, hQ⟩ := h₂
  refine lc2_core (RR := fun acc C => compPost (model pw w) A E (some (assign (.Name y py) env)) (fun _ s' => Q .next s') acc C) W hh R hL S h0 hb hturn ?_ hne hcell hkind hx1 hx2 hs2
  intro D C m vs hp tk hR S'
  obtain ⟨m', K', hU⟩ := hQ vs hR
  obtain ⟨up, hq⟩ := hU D
  show wpAny _ A (assign (.Name y py) env (.ref D)) _ _ _
  refine wpAny_assign_Name ?_
  refine st_loc (x := y) S' (.tail (.tail up)) (fun h3 tk3 S3 => ?_) hke hy
  exact ⟨m, S3.ns (.head _), fun h'' hs'' => hq h'' _ (S3.dropE hs''.extBut)⟩
end
end Mine
end
/-! text C1 -/
section
open PySem PySem.W PyProof.Rows PySem.Spec PySem.Calls
set_option maxRecDepth 100000
set_option linter.unusedVariables false
namespace Mine
section
variable {w : World} {A : Around} {E : Value → Shared → Prop} {s : Shared} {h₀ : Gd} {H : Led} {env : Env}

theorem c_in_b1 {c : Nat} {t : Tok} {Q : Value → Shared → Prop} (B : Bs w h₀) (S : St h₀ s.heap H) (hA : A.depth < 900)
    (k : ∀ h' tk, St h₀ h' H → Q (.bool (decide ((c : Int) ∈ b1list))) { s with heap := h', toks := tk }) :
    wpAny (model pw w) A (call (.ref 55) [.str ⟨#[c]⟩ t] []) Q E s := by
  obtain ⟨pm, hf⟩ := B.f55
  refine call_fn (args := ⟨[.str ⟨#[c]⟩ t], []⟩) (binds := [("code", .str ⟨#[c]⟩ t)]) B S (Nat.lt_of_lt_of_le hA (by decide)) (S.keep _ _ hf) rfl (B.c54.keeps S.keep) rfl (BindsTo.of_eq rfl) fun L h' tk hL S1 => ?_
  generalize hev : callEnv (mkFd (pst 7) Value.none Value.none pm (Value.ref 54)) L 55 = env
  refine wpAny_execs_cons ?_
  refine wpAny_Return_some ?_
  refine wpAny_Compare1 ?_ rfl
  refine wpAny_Call_NameR ?_
  subst hev
  refine ev_blt B S1 (v := .builtin "ord") (by decide) bootS_ord ?_
  refine cb1 ?_
  refine ev_loc (x := "code") S1 (.head _) rfl ?_
  refine P.ord_of_char ?_
  refine ev_glo (v := .ref 45) B S1 (by decide) ?_
  have hs := B.s45
  refine wpAny_inSet_of (knd := intKind pw w) (k := (c : Int)) (S := fun k => decide (k ∈ b1list)) (n := 27) (by simp [intKind, Value.isInt]) rfl ?_ ?_
  · obtain ⟨o, es, ep, t, e, r⟩ := hs
    exact ⟨o, es, ep, t, S1.keep _ _ e, r⟩
  · exact k _ _ S1.drop
end
end Mine
end
/-! text C2 -/
section
open PySem PySem.W PyProof.Rows PySem.Spec PySem.Calls PySem.Builtin
set_option maxRecDepth 100000
set_option linter.unusedVariables false
namespace Mine
noncomputable def b3map (c : Nat) : Str := match b3look c with
  | some v => v
  | none => Txt.lower ⟨#[c]⟩
section
variable {w : World} {A : Around} {E : Value → Shared → Prop} {s : Shared} {h₀ : Gd} {H : Led} {env : Env}

theorem c_map_b3 {c : Nat} {t : Tok} {Q : Value → Shared → Prop} (B : Bs w h₀) (S : St h₀ s.heap H) (hA : A.depth < 900) (hl : PySem.Builtin.Str.tooLong (Txt.lower ⟨#[c]⟩).length = false)
    (k : ∀ t h' tk, St h₀ h' H → Q (.str (b3map c) t) { s with heap := h', toks := tk }) :
    wpAny (model pw w) A (call (.ref 101) [.str ⟨#[c]⟩ t] []) Q E s := by
  obtain ⟨pm, hf⟩ := B.f101
  refine call_fn (args := ⟨[.str ⟨#[c]⟩ t], []⟩) (binds := [("code", .str ⟨#[c]⟩ t)]) B S (Nat.lt_of_lt_of_le hA (by decide)) (S.keep _ _ hf) rfl (B.c100.keeps S.keep) rfl (BindsTo.of_eq rfl) fun L h' tk hL S1 => ?_
  refine wpAny_execs_cons ?_
  refine wpAny_Assign_Name ?_ rfl
  refine wpAny_Call_method (T := "dict") (id := "dict.get") rfl rfl rfl F.plainAttrs_dict F.slot_dict_get F.type_dict_get ?_
  refine ev_glo (v := .ref 56) B S1 (by decide) ?_
  obtain ⟨f, hm, hf2⟩ := B.d56
  have hm1 : h'.MapOf (intKind pw w) 56 f := by
    obtain ⟨o, es, ep, e, r⟩ := hm
    exact ⟨o, es, ep, S1.keep _ _ e, r⟩
  refine ⟨hm1.typeIs, hm1.noDict, ?_⟩
  refine wpAny_dict_get1 (knd := intKind pw w) rfl ?_
  refine wpAny_Call_NameR ?_
  refine ev_blt B S1 (v := .builtin "ord") (by decide) bootS_ord ?_
  refine cb1 ?_
  refine ev_loc (x := "code") S1 (.head _) rfl ?_
  refine P.ord_of_char ?_
  refine ⟨(c : Int), f, by simp [intKind, Value.isInt], hm1, ?_⟩
  refine st_loc (x := "r") S1 .head fun h2 tk2 S2 => ?_
  refine wpAny_execs_cons ?_
  refine wpAny_If ?_
  refine wpAny_isTrue_Compare1 ?_ rfl
  refine ev_loc (x := "r") S2 (.head _) rfl ?_
  refine wpAny_Constant_none ?_
  refine isnot_none_gen ?_
  refine wpAny_truthy_bool ?_
  have hfc := hf2 (c : Int)
  cases hb : b3look (c : Int) with
  | some v =>
    rw [hb] at hfc
    obtain ⟨t', e⟩ := hfc
    rw [e]
    refine wpAny_execs_cons ?_
    refine wpAny_Return_some ?_
    refine ev_loc (x := "r") S2 (.head _) rfl ?_
    rw [e]
    have e2 : b3map c = v := by unfold b3map; rw [hb]
    rw [← e2]
    exact k _ _ _ S2.drop
  | none =>
    rw [hb] at hfc
    have hfc : f (c : Int) = none := hfc
    rw [hfc]
    refine wpAny_execs_nil ?_
    refine wpAny_execs_cons ?_
    refine wpAny_Return_some ?_
    refine wpAny_Call_method_lateS rfl rfl rfl ?_
    refine ev_loc (x := "code") S2 (.head _) rfl ?_
    refine SB.lower hl ?_
    have e2 : b3map c = Txt.lower ⟨#[c]⟩ := by unfold b3map; rw [hb]
    rw [← e2]
    exact k _ _ _ S2.drop
end
end Mine
end
/-! text C3 -/
section
open PySem PySem.W PyProof.Rows PySem.Spec PySem.Calls
set_option maxRecDepth 100000
set_option linter.unusedVariables false
namespace Mine
/-- how many lie below -/
noncomputable def cntLt (xs : List Int) (x : Int) : Nat := (xs.filter fun y => decide (y < x)).length
theorem cntLt_iff : ∀ {xs : List Int} {x : Int}, xs.Pairwise (· ≤ ·) → ∀ (i : Nat) (y : Int), xs[i]? = some y → (y < x ↔ i < cntLt xs x)
  | [], x, _, i, y, h => by simp at h
  | z :: xs, x, hs, i, y, h => by
    obtain ⟨h1, h2⟩ := List.pairwise_cons.mp hs
    by_cases hz : z < x
    · have e : cntLt (z :: xs) x = cntLt xs x + 1 := by simp [cntLt, hz]
      rw [e]
      cases i with
      | zero => simp only [List.getElem?_cons_zero, Option.some.injEq] at h; subst h; simp [hz]
      | succ i =>
        simp only [List.getElem?_cons_succ] at h
        rw [cntLt_iff h2 i y h]; omega
    · have e : cntLt (z :: xs) x = 0 := by
        have : ∀ y ∈ z :: xs, ¬ y < x := by
          intro y hy
          rcases List.mem_cons.mp hy with rfl | hy
          · exact hz
          · have := h1 y hy; omega
        simp only [cntLt, List.length_eq_zero_iff, List.filter_eq_nil_iff, decide_eq_true_eq]
        exact this
      rw [e]
      have : ¬ y < x := by
        have hm : y ∈ z :: xs := List.mem_of_getElem? h
        rcases List.mem_cons.mp hm with rfl | hy
        · exact hz
        · have := h1 y hy; omega
      simp [this]
section
variable {w : World} {A : Around} {E : Value → Shared → Prop} {s : Shared} {h₀ : Gd} {H : Led} {env : Env}

theorem bis_body {L l : Addr} {pm : Value} {xs : List Int} {x : Int} {tx tl : Tok} {lo hi : Nat} {vh : Value} {m : Str → Option Value} {Q : Value → Shared → Prop} (B : Bs w h₀) (S : St h₀ s.heap ((L, nsP m) :: H))
    (hl : (l, intsP xs) ∈ H) (hs : xs.Pairwise (· ≤ ·)) (hlo : lo ≤ hi) (hhi : hi ≤ xs.length) (hf : xs.length < 2 ^ 62)
    (ma : m "a" = some (.ref l)) (mx : m "x" = some (.int x tx)) (ml : m "lo" = some (.int lo tl)) (mh : m "hi" = some vh) (mk : m "key" = some .none)
    (hv : (vh = .none ∧ hi = xs.length) ∨ ∃ t, vh = .int hi t)
    (k : ∀ t h' tk, St h₀ h' H → Q (.int (max lo (min hi (cntLt xs x)) : Nat) t) { s with heap := h', toks := tk }) :
    wpAny (model pw w) A (execs (fbody (pst 4)) (callEnv (mkFd (pst 4) (.ref 29) (.ref 30) pm (.ref 36)) L 37)) (fun f s' => Q (match f with | .ret v => v | _ => .none) s') (fun _ _ => False) s := by
  -- the while loop from any such state
  have loop : ∀ (s₁ : Shared) (m₁ : Str → Option Value) (t₁ t₂ : Tok), s₁.gens = s.gens → s₁.drawn = s.drawn → s₁.os = s.os → St h₀ s₁.heap ((L, nsP m₁) :: H) → m₁ "a" = some (.ref l) → m₁ "x" = some (.int x tx) → m₁ "lo" = some (.int lo t₁) → m₁ "hi" = some (.int hi t₂) → m₁ "key" = some .none →
      wpAny (model pw w) A (execs (fbody (pst 4) |>.drop 2) (callEnv (mkFd (pst 4) (.ref 29) (.ref 30) pm (.ref 36)) L 37)) (fun f s' => Q (match f with | .ret v => v | _ => .none) s') (fun _ _ => False) s₁ := by
    intro s₁ m₁ t₁ t₂ g1 g2 g3 S₁ ma mx ml mh mk
    refine wpAny_execs_cons ?_
    refine wpAny_If ?_
    refine wpAny_isTrue_Compare1 ?_ rfl
    refine ev_loc (x := "key") S₁ (.head _) mk ?_
    refine wpAny_Constant_none ?_
    refine is_none_gen ?_
    refine wpAny_truthy_bool ?_
    refine wpAny_execs_cons ?_
    refine wpAny_While ?_
    refine codeAny_whileLoop (I := fun n s' => ∃ (lo' hi' : Nat) (m' : Str → Option Value) (h' : Heap) (tk : Nat) (t₁ t₂ : Tok), s' = { s₁ with heap := h', toks := tk } ∧ St h₀ h' ((L, nsP m') :: H) ∧ m' "a" = some (.ref l) ∧ m' "x" = some (.int x tx) ∧ m' "lo" = some (.int lo' t₁) ∧ m' "hi" = some (.int hi' t₂) ∧
      lo' ≤ hi' ∧ hi' ≤ xs.length ∧ max lo' (min hi' (cntLt xs x)) = max lo (min hi (cntLt xs x)) ∧ n = hi' - lo') ?_ (hi - lo) ⟨lo, hi, m₁, s₁.heap, s₁.toks, t₁, t₂, rfl, S₁, ma, mx, ml, mh, hlo, hhi, rfl, rfl⟩
    rintro n s' ⟨lo', hi', m', h', tk, t₁, t₂, rfl, S', ma, mx, ml, mh, h1, h2, h3, rfl⟩
    refine wpAny_isTrue_Compare1 ?_ rfl
    refine ev_loc (x := "lo") S' (.head _) ml ?_
    refine ev_loc (x := "hi") S' (.head _) mh ?_
    refine wpAny_lt_int ?_
    refine wpAny_truthy_bool ?_
    by_cases hlt : lo' < hi'
    · have e1 : decide ((lo' : Int) < (hi' : Int)) = true := by simpa using hlt
      rw [e1, if_pos rfl]
      -- mid = (lo + hi) // 2
      refine wpAny_execs_cons ?_
      refine wpAny_Assign_Name ?_ rfl
      refine wpAny_BinOp ?_
      refine wpAny_BinOp ?_
      refine ev_loc (x := "lo") S' (.head _) ml ?_
      refine ev_loc (x := "hi") S' (.head _) mh ?_
      refine wpAny_add_int ?_
      refine wpAny_Constant_int ?_
      refine floordiv_int (by decide) ?_
      have e2 : ((lo' : Int) + (hi' : Int)).fdiv 2 = (((lo' + hi') / 2 : Nat) : Int) := by
        rw [Int.fdiv_eq_ediv_of_nonneg _ (by omega)]; omega
      rw [e2]
      refine st_loc (x := "mid") S' .head fun h2' tk2 S2 => ?_
      -- if a[mid] < x
      refine wpAny_execs_cons ?_
      refine wpAny_If ?_
      refine wpAny_isTrue_Compare1 ?_ rfl
      refine Subscript_ ?_
      refine ev_loc (x := "a") S2 (.head _) ma ?_
      refine ev_loc (x := "mid") S2 (.head _) rfl ?_
      have hm : (lo' + hi') / 2 < xs.length := by omega
      obtain ⟨y, hy⟩ : ∃ y, xs[(lo' + hi') / 2]? = some y := ⟨_, List.getElem?_eq_getElem hm⟩
      refine sub_ints S2 (.tail _ hl) (by omega) (by omega) (x := y) (by rw [Int.toNat_natCast]; exact hy) fun t' => ?_
      refine ev_loc (x := "x") S2 (.head _) mx ?_
      refine wpAny_lt_int ?_
      refine wpAny_truthy_bool ?_
      have hc := cntLt_iff hs _ y hy (x := x)
      by_cases hyx : y < x
      · rw [decide_eq_true hyx, if_pos rfl]
        refine wpAny_execs_cons ?_
        refine wpAny_Assign_Name ?_ rfl
        refine wpAny_BinOp ?_
        refine ev_loc (x := "mid") S2 (.head _) rfl ?_
        refine wpAny_Constant_int ?_
        refine wpAny_add_int ?_
        refine st_loc (x := "lo") S2 .head fun h3' tk3 S3 => ?_
        refine wpAny_execs_nil ?_
        refine wpAny_execs_nil ?_
        have := hc.mp hyx
        exact ⟨hi' - ((lo' + hi') / 2 + 1), by omega, (lo' + hi') / 2 + 1, hi', _, h3', tk3, _, _, rfl, S3, ma, mx, rfl, mh, by omega, h2, by omega, rfl⟩
      · rw [decide_eq_false hyx, if_neg Bool.false_ne_true]
        refine wpAny_execs_cons ?_
        refine wpAny_Assign_Name ?_ rfl
        refine ev_loc (x := "mid") S2 (.head _) rfl ?_
        refine st_loc (x := "hi") S2 .head fun h3' tk3 S3 => ?_
        refine wpAny_execs_nil ?_
        refine wpAny_execs_nil ?_
        have := fun q => hyx (hc.mpr q)
        exact ⟨(lo' + hi') / 2 - lo', by omega, lo', (lo' + hi') / 2, _, h3', tk3, _, _, rfl, S3, ma, mx, ml, rfl, by omega, by omega, by omega, rfl⟩
    · have e1 : decide ((lo' : Int) < (hi' : Int)) = false := by simpa using hlt
      rw [e1, if_neg Bool.false_ne_true]
      refine wpAny_execs_nil ?_
      refine wpAny_execs_nil ?_
      refine wpAny_execs_cons ?_
      refine wpAny_Return_some ?_
      refine ev_loc (x := "lo") S' (.head _) ml ?_
      have e : lo' = max lo (min hi (cntLt xs x)) := by omega
      rw [e]
      have kk := k t₁ h' tk S'.drop
      rw [show ({ s₁ with heap := h', toks := tk } : Shared) = { s with heap := h', toks := tk } by rw [g1, g2, g3]]
      exact kk
  refine wpAny_execs_cons ?_
  refine wpAny_If ?_
  refine wpAny_isTrue_Compare1 ?_ rfl
  refine ev_loc (x := "lo") S (.head _) ml ?_
  refine wpAny_Constant_int ?_
  refine wpAny_lt_int ?_
  refine wpAny_truthy_bool ?_
  rw [decide_eq_false (show ¬ (lo : Int) < 0 by omega), if_neg Bool.false_ne_true]
  refine wpAny_execs_nil ?_
  refine wpAny_execs_cons ?_
  refine wpAny_If ?_
  refine wpAny_isTrue_Compare1 ?_ rfl
  refine ev_loc (x := "hi") S (.head _) mh ?_
  refine wpAny_Constant_none ?_
  refine is_none_gen ?_
  refine wpAny_truthy_bool ?_
  rcases hv with ⟨rfl, rfl⟩ | ⟨t, rfl⟩
  · refine wpAny_execs_cons ?_
    refine wpAny_Assign_Name ?_ rfl
    refine wpAny_Call_NameR ?_
    refine ev_blt B S (v := .builtin "len") (by decide) (by decide +kernel) ?_
    refine cb1 ?_
    refine ev_loc (x := "a") S (.head _) ma ?_
    refine len_ints S (.tail _ hl) hf fun t tk => ?_
    refine st_loc (x := "hi") S .head fun h2' tk2 S2 => ?_
    refine wpAny_execs_nil ?_
    exact loop _ _ _ _ rfl rfl rfl S2 ma mx ml rfl mk
  · refine wpAny_execs_nil ?_
    exact loop _ _ _ _ rfl rfl rfl S ma mx ml mh mk

/-- bisect_left(a, x, lo, hi) -/
theorem c_bis4 {l : Addr} {xs : List Int} {x : Int} {tx tl th : Tok} {lo hi : Nat} {Q : Value → Shared → Prop} (B : Bs w h₀) (S : St h₀ s.heap H) (hA : A.depth < 900)
    (hl : (l, intsP xs) ∈ H) (hs : xs.Pairwise (· ≤ ·)) (hlo : lo ≤ hi) (hhi : hi ≤ xs.length) (hf : xs.length < 2 ^ 62)
    (k : ∀ t h' tk, St h₀ h' H → Q (.int (max lo (min hi (cntLt xs x)) : Nat) t) { s with heap := h', toks := tk }) :
    wpAny (model pw w) A (call (.ref 37) [.ref l, .int x tx, .int lo tl, .int hi th] []) Q E s := by
  obtain ⟨pm, hp⟩ := B.f37
  obtain ⟨t, n, hs', t', n', X⟩ := B.frag S
  refine call_fn (args := ⟨[.ref l, .int x tx, .int lo tl, .int hi th], []⟩) (binds := [("a", .ref l), ("x", .int x tx), ("lo", .int lo tl), ("hi", .int hi th), ("key", .none)]) B S (Nat.lt_of_lt_of_le hA (by decide)) (S.keep _ _ hp) rfl (B.c36.keeps S.keep) rfl
    (kp_binds X fun _ => rfl) fun L h' tk hL S1 => ?_
  exact bis_body (m := _) (hi := hi) B S1 hl hs hlo hhi hf rfl rfl rfl rfl rfl (.inr ⟨th, rfl⟩) k
/-- bisect_left(a, x, lo) -/
theorem c_bis3 {l : Addr} {xs : List Int} {x : Int} {tx tl : Tok} {lo : Nat} {Q : Value → Shared → Prop} (B : Bs w h₀) (S : St h₀ s.heap H) (hA : A.depth < 900)
    (hl : (l, intsP xs) ∈ H) (hs : xs.Pairwise (· ≤ ·)) (hlo : lo ≤ xs.length) (hf : xs.length < 2 ^ 62)
    (k : ∀ t h' tk, St h₀ h' H → Q (.int (max lo (min xs.length (cntLt xs x)) : Nat) t) { s with heap := h', toks := tk }) :
    wpAny (model pw w) A (call (.ref 37) [.ref l, .int x tx, .int lo tl] []) Q E s := by
  obtain ⟨pm, hp⟩ := B.f37
  obtain ⟨t, n, hs', t', n', X⟩ := B.frag S
  refine call_fn (args := ⟨[.ref l, .int x tx, .int lo tl], []⟩) (binds := [("a", .ref l), ("x", .int x tx), ("lo", .int lo tl), ("hi", .none), ("key", .none)]) B S (Nat.lt_of_lt_of_le hA (by decide)) (S.keep _ _ hp) rfl (B.c36.keeps S.keep) rfl
    (kp_binds X fun _ => rfl) fun L h' tk hL S1 => ?_
  exact bis_body (m := _) (hi := xs.length) B S1 hl hs hlo (Nat.le_refl _) hf rfl rfl rfl rfl rfl (.inl ⟨rfl, rfl⟩) k
/-- bisect_left(a, x) -/
theorem c_bis2 {l : Addr} {xs : List Int} {x : Int} {tx : Tok} {Q : Value → Shared → Prop} (B : Bs w h₀) (S : St h₀ s.heap H) (hA : A.depth < 900)
    (hl : (l, intsP xs) ∈ H) (hs : xs.Pairwise (· ≤ ·)) (hf : xs.length < 2 ^ 62)
    (k : ∀ t h' tk, St h₀ h' H → Q (.int (max 0 (min xs.length (cntLt xs x)) : Nat) t) { s with heap := h', toks := tk }) :
    wpAny (model pw w) A (call (.ref 37) [.ref l, .int x tx] []) Q E s := by
  obtain ⟨pm, hp⟩ := B.f37
  obtain ⟨t, n, hs', t', n', X⟩ := B.frag S
  refine call_fn (args := ⟨[.ref l, .int x tx], []⟩) (binds := [("a", .ref l), ("x", .int x tx), ("lo", .int (0 : Nat) t), ("hi", .none), ("key", .none)]) B S (Nat.lt_of_lt_of_le hA (by decide)) (S.keep _ _ hp) rfl (B.c36.keeps S.keep) rfl
    (kp_binds X fun _ => rfl) fun L h' tk hL S1 => ?_
  exact bis_body (m := _) (lo := 0) (hi := xs.length) B S1 hl hs (Nat.zero_le _) (Nat.le_refl _) hf rfl rfl rfl rfl rfl (.inl ⟨rfl, rfl⟩) k
end
end Mine
end
/-! text C4 -/
section
open PySem PySem.W PyProof.Rows PySem.Spec PySem.Calls
set_option maxRecDepth 100000
set_option linter.unusedVariables false
namespace Mine
/-- the digits' number -/
noncomputable def dval (U : Nat) : List Nat → Nat
  | [] => 0
  | d :: ds => d + U * dval U ds
theorem dval_append (U : Nat) : ∀ (a b : List Nat), dval U (a ++ b) = dval U a + U ^ a.length * dval U b
  | [], b => by simp [dval]
  | d :: a, b => by
    rw [List.cons_append, dval, dval, dval_append U a b, List.length_cons, Nat.pow_succ, Nat.mul_add, Nat.mul_comm (U ^ a.length) U, Nat.mul_assoc]; omega
theorem dval_lt {n : Nat} : ∀ {ds : List Nat}, (∀ d ∈ ds, d ≤ 2 ^ n) → dval (2 ^ n) ds < 2 ^ ((n + 1) * ds.length)
  | [], _ => by simp [dval]
  | d :: ds, h => by
    have ih := dval_lt (n := n) (ds := ds) fun x hx => h x (.tail _ hx)
    have h1 := h d (.head _)
    have e : 2 ^ ((n + 1) * (d :: ds).length) = 2 ^ n * (2 * 2 ^ ((n + 1) * ds.length)) := by
      rw [List.length_cons, Nat.mul_add, Nat.mul_one, Nat.add_comm, Nat.pow_add, Nat.pow_add, Nat.pow_one, Nat.mul_assoc]
    rw [e, dval]
    have hp : 0 < 2 ^ n := Nat.two_pow_pos n
    have h2 : d + 2 ^ n * dval (2 ^ n) ds ≤ 2 ^ n * (1 + dval (2 ^ n) ds) := by rw [Nat.mul_add]; omega
    refine Nat.lt_of_le_of_lt h2 (Nat.mul_lt_mul_of_pos_left ?_ hp)
    omega
theorem dval_split (n : Nat) (ds : List Nat) (L M R : Nat) (h1 : L ≤ M) (h2 : M ≤ R) (h3 : R ≤ ds.length) : ((dval (2 ^ n) ((ds.drop M).take (R - M)) : Nat) : Int) * 2 ^ (((M - L) * n : Nat) : Int).toNat + ((dval (2 ^ n) ((ds.drop L).take (M - L)) : Nat) : Int) = ((dval (2 ^ n) ((ds.drop L).take (R - L)) : Nat) : Int) := by
  rw [Int.toNat_natCast]
  have e6 : (ds.drop L).take (R - L) = (ds.drop L).take (M - L) ++ (ds.drop M).take (R - M) := by
    have e7 : R - L = (M - L) + (R - M) := by omega
    rw [e7, List.take_add, List.drop_drop, show L + (M - L) = M by omega]
  have e8 : ((ds.drop L).take (M - L)).length = M - L := by rw [List.length_take, List.length_drop]; omega
  rw [e6, dval_append, e8, ← Nat.pow_mul, Nat.mul_comm n (M - L)]
  generalize dval (2 ^ n) ((ds.drop M).take (R - M)) = a
  generalize dval (2 ^ n) ((ds.drop L).take (M - L)) = b
  generalize (M - L) * n = e
  rw [Int.natCast_add, Int.natCast_mul, Int.natCast_pow, Int.add_comm, Int.mul_comm]
  rfl
noncomputable abbrev natL (ds : List Nat) : List Int := ds.map fun (d : Nat) => Int.ofNat d
noncomputable def i2 : Stmt := (fbody (pst 2)).getD 0 (.Pass ⟨0, 0, 0, 0⟩)
noncomputable abbrev fd2 (clos : List (Str × Addr)) (doc pm : Value) (c : Addr) (ctv : Value) : FuncData := fnX "inner" q2 (fargs i2) (fbody i2) (fscope i2) clos .none .none doc pm none (.ref c) ctv
section
variable {w : World} {A : Around} {E : Value → Shared → Prop} {s : Shared} {h₀ : Gd} {H : Led} {env : Env}

theorem St.code2 {h : Heap} {c : Addr} (S : St h₀ h H) (hc : h₀.c2 = some c) : h.CodeRec (.ref c) q2 := (S.t2.code c hc).2.2.2.2
theorem St.code1 {h : Heap} {c : Addr} (S : St h₀ h H) (hc : h₀.c1 = some c) : h.CodeRec (.ref c) q1 := (S.t1.code c hc).2.2.2.2

theorem c_inner2 {f l cd cn ci c : Addr} {doc pm ctv : Value} {n : Nat} {tn : Tok} {ds : List Nat} (B : Bs w h₀) (hd : ∀ d ∈ ds, d ≤ 2 ^ n) (hn : n ≤ 1400) (hlen : ds.length ≤ 64) (hc : h₀.c2 = some c) :
    ∀ (k L R : Nat) (tL tR : Tok) {A : Around} {E : Value → Shared → Prop} {s : Shared} {H : Led} {Q : Value → Shared → Prop}, R - L ≤ k → L < R → R ≤ ds.length → A.depth + k < 900 → St h₀ s.heap H →
      (f, fnP (fd2 [("n", cn), ("inner", ci), ("digits", cd)] doc pm c ctv)) ∈ H → (cn, cellP (some (.int n tn))) ∈ H → (ci, cellP (some (.ref f))) ∈ H → (cd, cellP (some (.ref l))) ∈ H → (l, intsP (natL ds)) ∈ H →
      (∀ t h' tk, St h₀ h' H → Q (.int (dval (2 ^ n) ((ds.drop L).take (R - L)) : Nat) t) { s with heap := h', toks := tk }) →
      wpAny (model pw w) A (call (.ref f) [.int L tL, .int R tR] []) Q E s := by
  intro k
  induction k with
  | zero => intro L R; intros; omega
  | succ k ih =>
    intro L R tL tR A E s H Q hk hLR hR hA S mf mn mi md ml kk
    obtain ⟨o, eo, hfo⟩ := S.led _ mf
    refine call_fn (args := ⟨[.int L tL, .int R tR], []⟩) (binds := [("L", .int L tL), ("R", .int R tR)]) B S (Nat.lt_of_lt_of_le (Nat.lt_of_le_of_lt (Nat.le_add_right _ _) hA) (by decide)) eo hfo (S.code2 hc) rfl (BindsTo.of_eq rfl) fun F h' tk hF S1 => ?_
    refine wpAny_execs_cons ?_
    refine wpAny_If ?_
    refine wpAny_isTrue_Compare1 ?_ rfl
    refine wpAny_BinOp ?_
    refine ev_loc (x := "L") S1 (.head _) rfl ?_
    refine wpAny_Constant_int ?_
    refine add_to ((L + 1 : Nat) : Int) rfl ?_
    refine ev_loc (x := "R") S1 (.head _) rfl ?_
    refine eqn_to ?_
    refine wpAny_truthy_bool ?_
    by_cases h1 : L + 1 = R
    · subst h1
      refine ite_t (decide_eq_true rfl) ?_
      refine wpAny_execs_cons ?_
      refine wpAny_Return_some ?_
      refine Subscript_ ?_
      refine ev_fre (x := "digits") (c := cd) S1 (.tail _ md) rfl ?_
      refine ev_loc (x := "L") S1 (.head _) rfl ?_
      have hL : L < ds.length := by omega
      refine sub_ints S1 (.tail _ ml) (by omega) (by omega) (x := (ds[L] : Int)) (by rw [Int.toNat_natCast, List.getElem?_map, List.getElem?_eq_getElem hL]; rfl) fun t' => ?_
      have e : dval (2 ^ n) ((ds.drop L).take (L + 1 - L)) = ds[L] := by
        rw [Nat.add_sub_cancel_left, List.drop_eq_getElem_cons hL, List.take_succ_cons, List.take_zero]
        exact Nat.add_zero _
      have := kk t' h' (tk + 1 + 1) S1.drop
      rw [e] at this
      exact this
    · refine ite_f (decide_eq_false h1) ?_
      refine wpAny_execs_nil ?_
      -- mid
      refine wpAny_execs_cons ?_
      refine wpAny_Assign_Name ?_ rfl
      refine wpAny_BinOp ?_
      refine wpAny_BinOp ?_
      refine ev_loc (x := "L") S1 (.head _) rfl ?_
      refine ev_loc (x := "R") S1 (.head _) rfl ?_
      refine addn ?_
      refine wpAny_Constant_int ?_
      have hM0 : (((L + R : Nat) : Int)).fdiv (2 ^ (1 : Int).toNat) = (((L + R) / 2 : Nat) : Int) := by
        rw [show (2 : Int) ^ (1 : Int).toNat = 2 from rfl, Int.fdiv_eq_ediv_of_nonneg _ (by omega)]; omega
      refine rsh_to _ hM0 (by decide) ?_
      generalize hM : (L + R) / 2 = M
      refine st_loc (x := "mid") S1 .head fun h2 tk2 S2 => ?_
      -- shift
      refine wpAny_execs_cons ?_
      refine wpAny_Assign_Name ?_ rfl
      refine wpAny_BinOp ?_
      refine wpAny_BinOp ?_
      refine ev_loc (x := "mid") S2 (.head _) rfl ?_
      refine ev_loc (x := "L") S2 (.head _) rfl ?_
      refine subn (by omega) ?_
      refine ev_fre (x := "n") (c := cn) S2 (.tail _ mn) rfl ?_
      refine mul_to (((M - L) * n : Nat) : Int) (by simp) (IntMulOk.of_left (Nat.le_trans (bits_le (show M - L < 2 ^ 7 by omega)) (by decide))) ?_
      refine st_loc (x := "shift") S2 .head fun h3 tk3 S3 => ?_
      -- return
      refine wpAny_execs_cons ?_
      refine wpAny_Return_some ?_
      refine wpAny_BinOp ?_
      refine wpAny_BinOp ?_
      refine wpAny_Call_NameR ?_
      refine ev_fre (x := "inner") (c := ci) S3 (.tail _ mi) rfl ?_
      refine cg2 (S3.fnAt (.tail _ mf)) ?_
      refine ev_loc (x := "mid") S3 (.head _) rfl ?_
      refine ev_loc (x := "R") S3 (.head _) rfl ?_
      refine ⟨S3.fnAt (.tail _ mf), ?_⟩
      refine ih M R _ _ (by omega) (by omega) hR (by show A.depth + 1 + k < 900; omega) S3 (.tail _ mf) (.tail _ mn) (.tail _ mi) (.tail _ md) (.tail _ ml) fun t4 h4 tk4 S4 => ?_
      refine ev_loc (x := "shift") S4 (.head _) rfl ?_
      have hb : dval (2 ^ n) ((ds.drop M).take (R - M)) < 2 ^ ((n + 1) * 64) := by
        refine Nat.lt_of_lt_of_le (dval_lt fun d hd' => hd d (List.mem_of_mem_drop (List.mem_of_mem_take hd'))) (Nat.pow_le_pow_right (by decide) (Nat.mul_le_mul_left _ ?_))
        rw [List.length_take, List.length_drop]; omega
      have hsh : (M - L) * n ≤ 64 * 1400 := Nat.mul_le_mul (by omega) hn
      have hnn : (n + 1) * 64 ≤ 1401 * 64 := Nat.mul_le_mul_right _ (by omega)
      refine lshift_int (by omega) ?_ ?_
      · have := bits_le hb
        omega
      refine wpAny_Call_NameR ?_
      refine ev_fre (x := "inner") (c := ci) S4 (.tail _ mi) rfl ?_
      refine cg2 (S4.fnAt (.tail _ mf)) ?_
      refine ev_loc (x := "L") S4 (.head _) rfl ?_
      refine ev_loc (x := "mid") S4 (.head _) rfl ?_
      refine ⟨S4.fnAt (.tail _ mf), ?_⟩
      refine ih L M _ _ (by omega) (by omega) (by omega) (by show A.depth + 1 + k < 900; omega) S4 (.tail _ mf) (.tail _ mn) (.tail _ mi) (.tail _ md) (.tail _ ml) fun t5 h5 tk5 S5 => ?_
      refine add_to _ (dval_split n ds L M R (by omega) (by omega) hR) ?_
      exact kk _ _ _ S5.drop
end
end Mine
end
/-! text C5 -/
section
open PySem PySem.W PyProof.Rows PySem.Spec PySem.Calls
set_option maxRecDepth 100000
set_option linter.unusedVariables false
namespace Mine
section
variable {w : World} {A : Around} {E : Value → Shared → Prop} {s : Shared} {h₀ : Gd} {H : Led} {env : Env}

theorem c_d2i {l : Addr} {n : Nat} {tn : Tok} {ds : List Nat} {Q : Value → Shared → Prop} (B : Bs w h₀) (S : St h₀ s.heap H) (hA : A.depth < 800) (hd : ∀ d ∈ ds, d ≤ 2 ^ n) (hn : n ≤ 1400) (hlen : ds.length ≤ 64)
    (hl : (l, intsP (natL ds)) ∈ H)
    (k : ∀ c t h' tk, St { h₀ with c2 := some c } h' H → Q (.int (dval (2 ^ n) ds : Nat) t) { s with heap := h', toks := tk }) :
    wpAny (model pw w) A (call (.ref 28) [.ref l, .int n tn] []) Q E s := by
  obtain ⟨pm, hf⟩ := B.f28
  refine call_fnC (args := ⟨[.ref l, .int n tn], []⟩) (binds := [("digits", .ref l), ("n", .int n tn)]) B S (Nat.lt_of_lt_of_le hA (by decide)) (S.keep _ _ hf) rfl (B.c27.keeps S.keep) rfl (BindsTo.of_eq rfl) rfl (fun L h' tk hL S1 => ?_) (hnd := (by decide : ((cellsFrom 0 (fscope (pst 2)).names []).map (·.1)).Nodup))
  have S1 : St h₀ h' ((L, nsP fun _ => none) :: (L + 3, cellP none) :: (L + 2, cellP (some (.int n tn))) :: (L + 1, cellP (some (.ref l))) :: H) := S1
  refine wpAny_execs_cons ?_
  refine nestDef_K rfl rfl rfl ?_
  refine mk_inner2 B S1 rfl rfl (by rfl) rfl rfl fun f c ctv doc pm2 h2 tk2 S2 => ?_
  have B' : Bs w { h₀ with c2 := some c } := B
  refine st_cel (x := "inner") (c := L + 3) S2 rfl (.tail (.tail .head)) fun h3 tk3 S3 => ?_
  refine wpAny_execs_cons ?_
  refine wpAny_Return_some ?_
  refine wpAny_IfExp ?_
  refine wpAny_isTrue_value ?_ rfl
  refine ev_cel (x := "digits") (c := L + 1) S3 (by walk_at "mem") rfl ?_
  have hm3 := List.Mem.tail (f, fnP (fd2 [("n", L + 2), ("inner", L + 3), ("digits", L + 1)] doc pm2 c ctv)) (List.Mem.tail (L, nsP fun _ => none) (List.Mem.tail (L + 3, cellP (some (.ref f))) (List.Mem.tail (L + 2, cellP (some (.int n tn))) (List.Mem.tail (L + 1, cellP (some (.ref l))) hl))))
  refine truthy_ints S3 hm3 (by rw [List.length_map]; omega) fun tk3 => ?_
  cases ds with
  | nil =>
    refine wpAny_Constant_int ?_
    exact k _ _ _ _ S3.drop.drop.drop.drop.drop
  | cons d0 ds0 =>
    refine wpAny_Call_NameR ?_
    refine ev_cel (x := "inner") (c := L + 3) S3 (by walk_at "mem") rfl ?_
    refine cg2 (S3.fnAt (.head _)) ?_
    refine wpAny_Constant_int ?_
    refine wpAny_Call_NameR ?_
    refine ev_blt B' S3 (v := .builtin "len") (by decide) (by decide +kernel) ?_
    refine cb1 ?_
    refine ev_cel (x := "digits") (c := L + 1) S3 (by walk_at "mem") rfl ?_
    refine len_ints S3 hm3 (by rw [List.length_map]; omega) fun t tk4 => ?_
    refine ⟨S3.fnAt (.head _), ?_⟩
    rw [List.length_map]
    refine c_inner2 (cn := L + 2) (ci := L + 3) (cd := L + 1) (L := 0) B' hd hn hlen rfl (d0 :: ds0).length (d0 :: ds0).length _ _ (Nat.sub_le _ _) (Nat.succ_pos _) (Nat.le_refl _) (by show A.depth + 1 + _ < 900; omega) S3 (.head _) (by walk_at "mem") (by walk_at "mem") (by walk_at "mem") hm3 fun t h4 tk4 S4 => ?_
    have := k _ t h4 tk4 S4.drop.drop.drop.drop.drop
    rw [Nat.sub_zero, List.drop_zero, List.take_length]
    exact this
end
end Mine
end
/-! text M1 -/
section
open PySem PySem.W
namespace Mine
noncomputable def dig (U : Nat) : Nat → Nat → List Nat
  | _, 0 => []
  | x, 1 => [x]
  | x, k + 2 => x % U :: dig U (x / U) (k + 1)
theorem dig_length (U : Nat) : ∀ (k x : Nat), (dig U x k).length = k
  | 0, _ => rfl
  | 1, _ => rfl
  | k + 2, x => by rw [dig, List.length_cons, dig_length U (k + 1)]
theorem dig_split (U : Nat) : ∀ (a b x : Nat), dig U x (a + 1 + (b + 1)) = dig U (x % U ^ (a + 1)) (a + 1) ++ dig U (x / U ^ (a + 1)) (b + 1)
  | 0, b, x => by
    rw [show 0 + 1 + (b + 1) = b + 2 by omega, dig]
    simp [dig]
  | a + 1, b, x => by
    rw [show a + 1 + 1 + (b + 1) = (a + 1 + b) + 2 by omega, dig, show a + 1 + b + 1 = a + 1 + (b + 1) by omega, dig_split U a b (x / U), dig, List.cons_append]
    have e1 : x % U ^ (a + 1 + 1) % U = x % U := Nat.mod_mod_of_dvd _ ⟨U ^ (a + 1), by rw [Nat.pow_succ, Nat.mul_comm]⟩
    have e2 : x % U ^ (a + 1 + 1) / U = x / U % U ^ (a + 1) := by rw [Nat.pow_succ, Nat.mul_comm, Nat.mod_mul_right_div_self]
    have e3 : x / U / U ^ (a + 1) = x / U ^ (a + 1 + 1) := by rw [Nat.div_div_eq_div_mul, Nat.pow_succ _ (a + 1), Nat.mul_comm]
    rw [e1, e2, e3]
theorem dig_split' (U x a b : Nat) (ha : 0 < a) (hb : 0 < b) : dig U x (a + b) = dig U (x % U ^ a) a ++ dig U (x / U ^ a) b := by
  obtain ⟨a, rfl⟩ := Nat.exists_eq_succ_of_ne_zero (Nat.ne_of_gt ha)
  obtain ⟨b, rfl⟩ := Nat.exists_eq_succ_of_ne_zero (Nat.ne_of_gt hb)
  exact dig_split U a b x
theorem and_top (x s : Nat) : x &&& (x / 2 ^ s * 2 ^ s) = x / 2 ^ s * 2 ^ s := by
  apply Nat.eq_of_testBit_eq
  intro i
  rw [Nat.testBit_and, Nat.testBit_mul_two_pow, Nat.testBit_div_two_pow]
  by_cases h : s ≤ i
  · rw [Nat.sub_add_cancel h]; cases x.testBit i <;> simp [h]
  · simp [h]
theorem xor_low (x s : Nat) : Builtin.bitXor (x : Int) ((x / 2 ^ s * 2 ^ s : Nat) : Int) = ((x % 2 ^ s : Nat) : Int) := by
  rw [PyProof.Rows.bitXor_and]
  have e : Builtin.bitAnd (x : Int) ((x / 2 ^ s * 2 ^ s : Nat) : Int) = ((x / 2 ^ s * 2 ^ s : Nat) : Int) := by
    unfold Builtin.bitAnd
    rw [decide_eq_true (Int.natCast_nonneg _), decide_eq_true (Int.natCast_nonneg _)]
    show ((((x : Int).toNat &&& ((x / 2 ^ s * 2 ^ s : Nat) : Int).toNat : Nat)) : Int) = _
    rw [Int.toNat_natCast, Int.toNat_natCast, and_top]
  rw [e]
  have := Nat.div_add_mod x (2 ^ s)
  rw [Nat.mul_comm] at this
  omega
/-- one stretch of a list put anew -/
noncomputable def spl (xs : List Int) (L : Nat) (d : List Int) (R : Nat) : List Int := xs.take L ++ d ++ xs.drop R
theorem spl_length {xs : List Int} {L R : Nat} {d : List Int} (h1 : L ≤ R) (h2 : R ≤ xs.length) (h : d.length = R - L) : (spl xs L d R).length = xs.length := by
  simp only [spl, List.length_append, List.length_take, List.length_drop, h]; omega
theorem spl_spl {xs : List Int} {L M R : Nat} {d e : List Int} (h1 : L ≤ M) (h2 : M ≤ R) (h3 : R ≤ xs.length) (h : d.length = M - L) : spl (spl xs L d M) M e R = spl xs L (d ++ e) R := by
  have hl : (xs.take L ++ d).length = M := by rw [List.length_append, List.length_take, h]; omega
  have e1 : (xs.take L ++ d ++ xs.drop M).take M = xs.take L ++ d := by rw [List.take_append_of_le_length (by omega), List.take_of_length_le (by omega)]
  have e2 : (xs.take L ++ d ++ xs.drop M).drop R = xs.drop R := by
    rw [List.drop_append, List.drop_eq_nil_of_le (by omega), List.nil_append, List.drop_drop, hl]; congr 1; omega
  simp only [spl] at *
  rw [e1, e2, List.append_assoc (xs.take L)]
theorem spl_one {xs : List Int} {L : Nat} {x : Int} (h : L < xs.length) : spl xs L [x] (L + 1) = xs.set L x := by
  rw [spl, List.set_eq_take_append_cons_drop, if_pos h, List.append_assoc]; rfl
end Mine
end
/-! text C6 -/
section
open PySem PySem.W PyProof.Rows PySem.Spec PySem.Calls
set_option maxRecDepth 100000
set_option linter.unusedVariables false
set_option maxHeartbeats 4000000
namespace Mine
noncomputable def i1 : Stmt := (fbody (pst 1)).getD 1 (.Pass ⟨0, 0, 0, 0⟩)
noncomputable abbrev fd1 (clos : List (Str × Addr)) (doc pm : Value) (c : Addr) (ctv : Value) : FuncData := fnX "inner" q1 (fargs i1) (fbody i1) (fscope i1) clos .none .none doc pm none (.ref c) ctv
section
variable {w : World} {A : Around} {E : Value → Shared → Prop} {s : Shared} {h₀ : Gd} {H : Led} {env : Env}
theorem bits_room {a sh : Nat} (h : a ≤ 100000) (h' : sh ≤ 64 * 1400) : (a : Int) + (sh : Int) ≤ 2 ^ 27 := by omega
theorem dig_mid (n x L M R : Nat) (h1 : L < M) (h2 : M < R) : dig (2 ^ n) x (R - L) = dig (2 ^ n) (x % 2 ^ ((M - L) * n)) (M - L) ++ dig (2 ^ n) (x / 2 ^ ((M - L) * n)) (R - M) := by
  have e9 := dig_split' (2 ^ n) x (M - L) (R - M) (by omega) (by omega)
  rw [← Nat.pow_mul, Nat.mul_comm n, show M - L + (R - M) = R - L by omega] at e9
  exact e9
theorem natL_length (ds : List Nat) : (natL ds).length = ds.length := List.length_map ..
theorem natL_append (a b : List Nat) : natL (a ++ b) = natL a ++ natL b := List.map_append ..

theorem c_inner1 {f r cr cn ci c : Addr} {doc pm ctv : Value} {n : Nat} {tn : Tok} (B : Bs w h₀) (hn : n ≤ 1400) (hc : h₀.c1 = some c) :
    ∀ (k x L R : Nat) (xs : List Int) (tx tL tR : Tok) {A : Around} {E : Value → Shared → Prop} {s : Shared} {H : Led} {Q : Value → Shared → Prop}, R - L ≤ k → L < R → R ≤ xs.length → xs.length ≤ 64 → x < 2 ^ 100000 → A.depth + k < 900 →
      St h₀ s.heap ((r, intsP xs) :: H) →
      (f, fnP (fd1 [("n", cn), ("inner", ci), ("a_digits", cr)] doc pm c ctv)) ∈ H → (cn, cellP (some (.int n tn))) ∈ H → (ci, cellP (some (.ref f))) ∈ H → (cr, cellP (some (.ref r))) ∈ H →
      (∀ h' tk, St h₀ h' ((r, intsP (spl xs L (natL (dig (2 ^ n) x (R - L))) R)) :: H) → Q .none { s with heap := h', toks := tk }) →
      wpAny (model pw w) A (call (.ref f) [.int x tx, .int L tL, .int R tR] []) Q E s := by
  intro k
  induction k with
  | zero => intro x L R; intros; omega
  | succ k ih =>
    intro x L R xs tx tL tR A E s H Q hk hLR hR hlen hx hA S mf mn mi mr kk
    obtain ⟨o, eo, hfo⟩ := S.led _ (.tail _ mf)
    refine call_fn (args := ⟨[.int x tx, .int L tL, .int R tR], []⟩) (binds := [("x", .int x tx), ("L", .int L tL), ("R", .int R tR)]) B S (Nat.lt_of_lt_of_le (Nat.lt_of_le_of_lt (Nat.le_add_right _ _) hA) (by decide)) eo hfo (S.code1 hc) rfl (BindsTo.of_eq rfl) fun F h' tk hF S1 => ?_
    refine wpAny_execs_cons ?_
    refine wpAny_If ?_
    refine wpAny_isTrue_Compare1 ?_ rfl
    refine wpAny_BinOp ?_
    refine ev_loc (x := "L") S1 (.head _) rfl ?_
    refine wpAny_Constant_int ?_
    refine add_to ((L + 1 : Nat) : Int) rfl ?_
    refine ev_loc (x := "R") S1 (.head _) rfl ?_
    refine eqn_to ?_
    refine wpAny_truthy_bool ?_
    by_cases h1 : L + 1 = R
    · subst h1
      refine ite_t (decide_eq_true rfl) ?_
      refine wpAny_execs_cons ?_
      refine wpAny_Assign_Subscript ?_
      refine ev_loc (x := "x") S1 (.head _) rfl ?_
      refine ev_fre (x := "a_digits") (c := cr) S1 (.tail _ (.tail _ mr)) rfl ?_
      refine ev_loc (x := "L") S1 (.head _) rfl ?_
      refine set_ints S1 (.tail .head) (by omega) (by omega) (by omega) fun h2 S2 => ?_
      refine wpAny_execs_cons ?_
      refine wpAny_Return_none ?_
      rw [Nat.add_sub_cancel_left, show natL (dig (2 ^ n) x 1) = [(x : Int)] from rfl, spl_one (by omega)] at kk
      exact kk _ _ S2.drop
    · refine ite_f (decide_eq_false h1) ?_
      refine wpAny_execs_nil ?_
      refine wpAny_execs_cons ?_
      refine wpAny_Assign_Name ?_ rfl
      refine wpAny_BinOp ?_
      refine wpAny_BinOp ?_
      refine ev_loc (x := "L") S1 (.head _) rfl ?_
      refine ev_loc (x := "R") S1 (.head _) rfl ?_
      refine addn ?_
      refine wpAny_Constant_int ?_
      have hM0 : (((L + R : Nat) : Int)).fdiv (2 ^ (1 : Int).toNat) = (((L + R) / 2 : Nat) : Int) := by
        rw [show (2 : Int) ^ (1 : Int).toNat = 2 from rfl, Int.fdiv_eq_ediv_of_nonneg _ (by omega)]; omega
      refine rsh_to _ hM0 (by decide) ?_
      generalize hM : (L + R) / 2 = M
      refine st_loc (x := "mid") S1 .head fun h2 tk2 S2 => ?_
      -- shift
      refine wpAny_execs_cons ?_
      refine wpAny_Assign_Name ?_ rfl
      refine wpAny_BinOp ?_
      refine wpAny_BinOp ?_
      refine ev_loc (x := "mid") S2 (.head _) rfl ?_
      refine ev_loc (x := "L") S2 (.head _) rfl ?_
      refine subn (by omega) ?_
      refine ev_fre (x := "n") (c := cn) S2 (.tail _ (.tail _ mn)) rfl ?_
      refine mul_to (((M - L) * n : Nat) : Int) (by simp) (IntMulOk.of_left (Nat.le_trans (bits_le (show M - L < 2 ^ 7 by omega)) (by decide))) ?_
      refine st_loc (x := "shift") S2 .head fun h3 tk3 S3 => ?_
      generalize hS : (M - L) * n = sh
      rw [hS] at S3
      have hsh : sh ≤ 64 * 1400 := hS ▸ Nat.mul_le_mul (by omega) hn
      -- upper
      refine wpAny_execs_cons ?_
      refine wpAny_Assign_Name ?_ rfl
      refine wpAny_BinOp ?_
      refine ev_loc (x := "x") S3 (.head _) rfl ?_
      refine ev_loc (x := "shift") S3 (.head _) rfl ?_
      have hU : ((x : Int)).fdiv (2 ^ ((sh : Nat) : Int).toNat) = ((x / 2 ^ sh : Nat) : Int) := by
        rw [Int.toNat_natCast]
        generalize sh = e
        rw [Int.fdiv_eq_ediv_of_nonneg _ (Int.pow_nonneg (by decide)), Int.natCast_ediv, Int.natCast_pow]; rfl
      refine rsh_to _ hU (by omega) ?_
      refine st_loc (x := "upper") S3 .head fun h4 tk4 S4 => ?_
      -- lower
      refine wpAny_execs_cons ?_
      refine wpAny_Assign_Name ?_ rfl
      refine wpAny_BinOp ?_
      refine ev_loc (x := "x") S4 (.head _) rfl ?_
      refine wpAny_BinOp ?_
      refine ev_loc (x := "upper") S4 (.head _) rfl ?_
      refine ev_loc (x := "shift") S4 (.head _) rfl ?_
      have hV : ((x / 2 ^ sh : Nat) : Int) * 2 ^ ((sh : Nat) : Int).toNat = ((x / 2 ^ sh * 2 ^ sh : Nat) : Int) := by
        rw [Int.toNat_natCast]
        generalize sh = e
        rw [Int.natCast_mul, Int.natCast_pow]; rfl
      refine lsh_to ((x / 2 ^ sh * 2 ^ sh : Nat) : Int) ?_ ?_ ?_ ?_
      · exact hV
      · exact Int.natCast_nonneg _
      · have q : Builtin.Int.intBits ((x / 2 ^ sh : Nat) : Int) ≤ 100000 := bits_le (Nat.lt_of_le_of_lt (Nat.div_le_self _ _) hx)
        exact bits_room q hsh
      refine xor_to _ (xor_low x sh) ?_
      refine st_loc (x := "lower") S4 .head fun h5 tk5 S5 => ?_
      -- inner(lower, L, mid)
      refine wpAny_execs_cons ?_
      refine wpAny_Expr ?_
      refine wpAny_Call_NameR ?_
      refine ev_fre (x := "inner") (c := ci) S5 (.tail _ (.tail _ mi)) rfl ?_
      refine cg3 (S5.fnAt (.tail _ (.tail _ mf))) ?_
      refine ev_loc (x := "lower") S5 (.head _) rfl ?_
      refine ev_loc (x := "L") S5 (.head _) rfl ?_
      refine ev_loc (x := "mid") S5 (.head _) rfl ?_
      refine ⟨S5.fnAt (.tail _ (.tail _ mf)), ?_⟩
      refine ih (x % 2 ^ sh) L M xs _ _ _ (by omega) (by omega) (by omega) hlen (Nat.lt_of_le_of_lt (Nat.mod_le _ _) hx) (by show A.depth + 1 + k < 900; omega) S5.swap (.tail _ mf) (.tail _ mn) (.tail _ mi) (.tail _ mr) fun h6 tk6 S6 => ?_
      have hd1 : (natL (dig (2 ^ n) (x % 2 ^ sh) (M - L))).length = M - L := by rw [natL_length, dig_length]
      have S6 := S6.swap
      -- inner(upper, mid, R)
      refine wpAny_execs_cons ?_
      refine wpAny_Expr ?_
      refine wpAny_Call_NameR ?_
      refine ev_fre (x := "inner") (c := ci) S6 (.tail _ (.tail _ mi)) rfl ?_
      refine cg3 (S6.fnAt (.tail _ (.tail _ mf))) ?_
      refine ev_loc (x := "upper") S6 (.head _) rfl ?_
      refine ev_loc (x := "mid") S6 (.head _) rfl ?_
      refine ev_loc (x := "R") S6 (.head _) rfl ?_
      refine ⟨S6.fnAt (.tail _ (.tail _ mf)), ?_⟩
      have hl6 := spl_length (xs := xs) (L := L) (R := M) (by omega) (by omega) hd1
      refine ih (x / 2 ^ sh) M R _ _ _ _ (by omega) (by omega) (by rw [hl6]; exact hR) (by rw [hl6]; exact hlen) (Nat.lt_of_le_of_lt (Nat.div_le_self _ _) hx) (by show A.depth + 1 + k < 900; omega) S6.swap (.tail _ mf) (.tail _ mn) (.tail _ mi) (.tail _ mr) fun h7 tk7 S7 => ?_
      refine wpAny_execs_nil ?_
      have e9 := dig_mid n x L M R (by omega) (by omega)
      rw [hS] at e9
      rw [e9, natL_append, ← spl_spl (by omega) (by omega) hR hd1] at kk
      exact kk _ _ S7.swap.drop
end
end Mine
end
/-! text C7 -/
section
open PySem PySem.W PyProof.Rows PySem.Spec PySem.Calls
set_option maxRecDepth 100000
set_option linter.unusedVariables false
set_option maxHeartbeats 4000000
namespace Mine
/-- how many digits a number takes -/
noncomputable def ndig (n a : Nat) : Nat := (Builtin.Int.intBits (a : Int) + n - 1) / n
section
variable {w : World} {A : Around} {E : Value → Shared → Prop} {s : Shared} {h₀ : Gd} {H : Led} {env : Env}
theorem lit1 {e : PySem.Expr} {pos : Pos} {Q : Value → Shared → Prop}
    (h : wpAny (model pw w) A (eval e env) (fun v s₁ => ∃ (h₀ : Gd) (H : Led) (x : Int) (t : Tok), v = .int x t ∧ St h₀ s₁.heap H ∧ ∀ r h', St h₀ h' ((r, intsP [x]) :: H) → Q (.ref r) { s₁ with heap := h' }) E s)
    (hs : starEach [e] env = [(false, eval e env)] := by rfl) : wpAny (model pw w) A (eval (.List [e] pos) env) Q E s := by
  refine wpAny_List ?_
  rw [hs]
  refine spliced_cons (wpAny_mono h (fun v s₁ h₁ => spliced_nil ?_) fun _ _ x => x)
  obtain ⟨h₀, H, x, t, rfl, S, k⟩ := h₁
  refine ⟨(by decide : 1 ≤ sizeLine), k _ _ (S.push _ _ (intsP_of (.cons x t .nil)))⟩
theorem truthy_intn {n : Nat} {t : Tok} {Q : Bool → Shared → Prop} (h : Q (n != 0) s) : wpAny (model pw w) A (truthy (.int n t)) Q E s := by
  have e : ((n : Int) != 0) = (n != 0) := by
    by_cases hn : n = 0
    · subst hn; rfl
    · rw [show (n != 0) = true by simpa using hn]; simpa using hn
  exact truthy_int (by rw [e]; exact h)

theorem c_i2d {n a : Nat} {ta tn : Tok} {Q : Value → Shared → Prop} (B : Bs w h₀) (S : St h₀ s.heap H) (hA : A.depth < 800) (hn : n ≤ 1400) (hn0 : 0 < n) (ha : a < 2 ^ 100000) (hlen : ndig n a ≤ 64)
    (k : ∀ c r h' tk, St { h₀ with c1 := some c } h' ((r, intsP (natL (dig (2 ^ n) a (ndig n a)))) :: H) → Q (.ref r) { s with heap := h', toks := tk }) :
    wpAny (model pw w) A (call (.ref 21) [.int a ta, .int n tn] []) Q E s := by
  obtain ⟨pm, hf⟩ := B.f21
  refine call_fnC (args := ⟨[.int a ta, .int n tn], []⟩) (binds := [("a", .int a ta), ("n", .int n tn)]) B S (Nat.lt_of_lt_of_le hA (by decide)) (S.keep _ _ hf) rfl (B.c20.keeps S.keep) rfl (BindsTo.of_eq rfl) rfl (fun L h' tk hL S1 => ?_) (hnd := (by decide : ((cellsFrom 0 (fscope (pst 1)).names []).map (·.1)).Nodup))
  have S1 : St h₀ h' ((L, nsP fun y => if y = "a" then some (.int a ta) else none) :: (L + 3, cellP none) :: (L + 2, cellP none) :: (L + 1, cellP (some (.int n tn))) :: H) := S1
  have hbits : Builtin.Int.intBits (a : Int) ≤ 100000 := bits_le ha
  refine wpAny_execs_cons ?_
  refine wpAny_Assign_Name ?_ rfl
  refine wpAny_BinOp ?_
  refine lit1 ?_
  refine wpAny_Constant_int ?_
  refine ⟨_, _, 0, _, rfl, S1, fun r0 h1 S1a => ?_⟩
  refine wpAny_BinOp ?_
  refine wpAny_BinOp ?_
  refine wpAny_BinOp ?_
  refine wpAny_Call_method (T := "int") (id := "int.bit_length") rfl rfl rfl F.plainAttrs_int slot_int_bit_length type_int_bit_length ?_
  refine ev_loc (x := "a") S1a (.tail _ (.head _)) rfl ?_
  refine ⟨typeIs_int _ _ _, (fun _ e => nomatch e), ?_⟩
  refine callWith_method0 ?_
  refine call_int_bit_length ?_
  refine ev_cel (x := "n") (c := L + 1) S1a (by walk_at "mem") rfl ?_
  refine addn ?_
  refine wpAny_Constant_int ?_
  refine sub_to ((Builtin.Int.intBits (a : Int) + n - 1 : Nat) : Int) (by omega) ?_
  refine ev_cel (x := "n") (c := L + 1) S1a (by walk_at "mem") rfl ?_
  have hdv : (((Builtin.Int.intBits (a : Int) + n - 1 : Nat) : Int)).fdiv (n : Int) = ((ndig n a : Nat) : Int) := by
    rw [Int.fdiv_eq_ediv_of_nonneg _ (by omega)]; rfl
  refine fdiv_to _ hdv (by omega) (PyProof.noPylong_small (by omega)) ?_
  refine mul_ints S1a (.head _) (by omega) (by simp; omega) (by omega) fun r h2 S2 => ?_
  have hrep : (List.replicate ((ndig n a : Nat) : Int).toNat [(0 : Int)]).flatten.length = ndig n a := by simp
  generalize (List.replicate ((ndig n a : Nat) : Int).toNat [(0 : Int)]).flatten = zs at S2 hrep
  refine st_cel (x := "a_digits") (c := L + 2) S2 rfl (.tail (.tail (.tail (.tail .head)))) fun h3 tk3 S3 => ?_
  refine wpAny_execs_cons ?_
  refine nestDef_K rfl rfl rfl ?_
  refine mk_inner1 B S3 rfl rfl (by rfl) rfl rfl fun f c ctv doc pm2 h4 tk4 S4 => ?_
  have B' : Bs w { h₀ with c1 := some c } := B
  refine st_cel (x := "inner") (c := L + 3) S4 rfl (.tail (.tail (.tail (.tail .head)))) fun h5 tk5 S5 => ?_
  refine wpAny_execs_cons ?_
  refine wpAny_If ?_
  refine wpAny_isTrue_value ?_ rfl
  refine ev_loc (x := "a") S5 (.tail _ (.tail _ (.tail _ (.head _)))) rfl ?_
  refine truthy_intn ?_
  by_cases h0 : a = 0
  · refine ite_f (show (a != 0) = false by simpa using h0) ?_
    refine wpAny_execs_nil ?_
    refine wpAny_execs_cons ?_
    refine wpAny_Return_some ?_
    refine ev_cel (x := "a_digits") (c := L + 2) S5 (by walk_at "mem") rfl ?_
    have hz : ndig n a = 0 := by
      rw [h0]
      show (0 + n - 1) / n = 0
      exact Nat.div_eq_of_lt (by omega)
    have ez : zs = natL (dig (2 ^ n) a (ndig n a)) := by
      rw [hz]; rw [hz] at hrep
      exact List.eq_nil_of_length_eq_zero hrep
    rw [← ez] at k
    exact k _ _ _ _ (S5.sub (by
      refine .cons _ (.cons₂ _ (.cons _ (.cons _ (.cons _ (.cons _ (.cons _ (List.Sublist.refl _)))))))))
  · refine ite_t (show (a != 0) = true by simpa using h0) ?_
    refine wpAny_execs_cons ?_
    refine wpAny_Expr ?_
    refine wpAny_Call_NameR ?_
    refine ev_cel (x := "inner") (c := L + 3) S5 (by walk_at "mem") rfl ?_
    refine cg3 (S5.fnAt (.head _)) ?_
    refine ev_loc (x := "a") S5 (.tail _ (.tail _ (.tail _ (.head _)))) rfl ?_
    refine wpAny_Constant_int ?_
    refine wpAny_Call_NameR ?_
    refine ev_blt B' S5 (v := .builtin "len") (by decide) (by decide +kernel) ?_
    refine cb1 ?_
    refine ev_cel (x := "a_digits") (c := L + 2) S5 (by walk_at "mem") rfl ?_
    refine len_ints S5 (.tail _ (.head _)) (by omega) fun t tk6 => ?_
    refine ⟨S5.fnAt (.head _), ?_⟩
    have hpos : 0 < ndig n a := by
      have : 0 < Builtin.Int.intBits (a : Int) := by
        unfold Builtin.Int.intBits
        rw [if_neg (by simpa using h0)]; omega
      exact Nat.div_pos (by omega) hn0
    refine c_inner1 (cr := L + 2) (cn := L + 1) (ci := L + 3) (L := 0) (xs := zs) B' hn rfl 64 a zs.length _ _ _ (by omega) (by omega) (Nat.le_refl _) (by omega) ha (by show A.depth + 1 + _ < 900; omega) S5.swap (.head _) (by walk_at "mem") (by walk_at "mem") (by walk_at "mem") fun h7 tk7 S7 => ?_
    refine wpAny_execs_nil ?_
    refine wpAny_execs_cons ?_
    refine wpAny_Return_some ?_
    refine ev_cel (x := "a_digits") (c := L + 2) S7 (by walk_at "mem") rfl ?_
    have ez : spl zs 0 (natL (dig (2 ^ n) a (zs.length - 0))) zs.length = natL (dig (2 ^ n) a (ndig n a)) := by
      rw [Nat.sub_zero, hrep]
      simp [spl, ← hrep]
    rw [← ez] at k
    exact k _ _ _ _ (S7.sub (by
      refine .cons₂ _ (.cons _ (.cons _ (.cons _ (.cons _ (.cons _ (.cons _ (List.Sublist.refl _)))))))))
end
end Mine
end
/-! text C8 -/
section
open PySem PySem.W PyProof.Rows PySem.Spec PySem.Calls PySem.Builtin
set_option maxRecDepth 100000
set_option linter.unusedVariables false
set_option maxHeartbeats 4000000
namespace Mine
/-- what is not in table B.1 -/
noncomputable def nb1 (c : Nat) : Bool := !decide ((c : Int) ∈ b1list)
noncomputable def prepL (cs : List Nat) : List Str := (cs.filter nb1).map b3map
section
variable {w : World} {A : Around} {E : Value → Shared → Prop} {s : Shared} {h₀ : Gd} {H : Led} {env : Env}
theorem cbm1 {id : String} {ov : Value} {e : PySem.Expr} {pos : Pos} {Q : Value → Shared → Prop} (h : wpAny (model pw w) A (eval e env) (fun v s₁ => wpAny (model pw w) A (call (.builtin id) [ov, v]) Q E s₁) E s)
    (hs : starEach [e] env = [(false, eval e env)] := by rfl) : wpAny (model pw w) A (callWith pos (.builtin id) [ov] (backTo pos (starEach [e] env)) []) Q E s := by
  rw [hs]
  exact callWith_builtin rfl (evalArgs_plain (spliced_cons (wpAny_mono h (fun _ _ h₁ => spliced_nil h₁) fun _ _ e => e)))
theorem strs_snoc : ∀ {vs : List Value} {xs : List Str}, StrsAre vs xs → ∀ (x : Str) (t : Tok), StrsAre (vs ++ [.str x t]) (xs ++ [x])
  | _, _, .nil, x, t => .cons x t .nil
  | _, _, .cons n u h, x, t => .cons n u (strs_snoc h x t)
/-- ''.join(list) -/
theorem join0 {D : Addr} {vs : List Value} {ys : List Str} {t : Tok} {Q : Value → Shared → Prop} (S : St h₀ s.heap H) (hm : (D, listP vs) ∈ H) (hi : StrsAre vs ys) (hok : (ys.map (·.length)).sum ≤ 16777216)
    (h : ∀ t' k, Q (.str (Txt.join Str.empty ys) t') { s with toks := k }) : wpAny (model pw w) A (call (.builtin "str.join") [.str Str.empty t, .ref D]) Q E s :=
  join_list (items := vs.toArray) (S.plist hm).isList hi (by rw [show Str.empty.length = 0 from rfl, Nat.mul_zero]; exact hok) h

theorem c_prep {cs : List Nat} {t : Tok} {Q : Value → Shared → Prop} (B : Bs w h₀) (S : St h₀ s.heap H) (hA : A.depth < 800) (hh : A.handled = none) (hlen : cs.length ≤ 64)
    (hok : ∀ c ∈ cs, PySem.Builtin.Str.tooLong (Txt.lower ⟨#[c]⟩).length = false) (hsum : ((prepL cs).map (·.length)).sum ≤ 16777216)
    (k : ∀ t h' tk, St h₀ h' H → Q (.str (Txt.join Str.empty (prepL cs)) t) { s with heap := h', toks := tk }) :
    wpAny (model pw w) A (call (.ref 111) [.str ⟨cs.toArray⟩ t] []) Q E s := by
  obtain ⟨pm, hf⟩ := B.f111
  refine call_fn (args := ⟨[.str ⟨cs.toArray⟩ t], []⟩) (binds := [("text", .str ⟨cs.toArray⟩ t)]) B S (Nat.lt_of_lt_of_le hA (by decide)) (S.keep _ _ hf) rfl (B.c110.keeps S.keep) rfl (BindsTo.of_eq rfl) fun L0 h' tk hL0 S1 => ?_
  obtain ⟨m0, hm0, S1⟩ : ∃ m0 : Str → Option Value, m0 "text" = some (.str ⟨cs.toArray⟩ t) ∧ St h₀ h' ((L0, nsP m0) :: H) := ⟨_, rfl, S1⟩
  refine wpAny_execs_cons ?_
  refine wpAny_Return_some ?_
  refine wpAny_Call_method (T := "str") (id := "str.join") rfl rfl rfl F.plainAttrs_str F.slot_str_join F.type_str_join ?_
  refine Constant_str ?_
  refine ⟨typeIs_str _ _ _, (fun _ e => nomatch e), ?_⟩
  refine cbm1 ?_
  refine lc (cl := []) rfl hh ?_
  refine ev_loc (x := "text") S1 (.head _) hm0 ?_
  refine iter_str S1 fun I h2 ip W S2 => ?_
  refine ⟨fun i vs K => K = (L0, nsP m0) :: H ∧ StrsAre vs (prepL (cs.take i)), I, ip, _, _, _, _, _, rfl, W, ?_, (fun _ _ _ _ p hp => nomatch hp), S2, ⟨rfl, .nil⟩, ?_, ?_⟩
  · show cs.toArray.size ≤ _
    rw [List.size_toArray]; exact Nat.le_trans hlen (by decide)
  · rintro i v C D m K vs hp tk' E' Qt Qf hi ⟨c, u, hc, rfl⟩ ⟨rfl, hv⟩ hm hvl S3 kt kf
    have hc : cs[i]? = some c := by simpa using hc
    have hcm : c ∈ cs := List.mem_of_getElem? hc
    have htk : cs.take (i + 1) = cs.take i ++ [c] := by rw [List.take_add_one, hc]; rfl
    refine one_test ?_
    refine wpAny_isTrue_Not ?_
    refine wpAny_isTrue_value ?_ rfl
    refine wpAny_Call_NameR ?_
    refine ev_glo (v := .ref 55) B S3 (by decide) ?_
    refine cf1 (Bs.fn B.f55) ?_
    refine ev_loc (x := "sign") S3 (.head _) hm ?_
    refine ⟨S3.keep, ?_⟩
    refine c_in_b1 B S3 (by show A.depth + 1 < 900; omega) fun h4 tk4 S4 => ?_
    refine wpAny_truthy_bool ?_
    by_cases hb : (c : Int) ∈ b1list
    · rw [decide_eq_true hb]
      refine kf _ _ _ ⟨rfl, ?_⟩ S4
      rw [htk, prepL, List.filter_append, show [c].filter nb1 = [] by simp [nb1, hb], List.append_nil]
      exact hv
    · rw [decide_eq_false hb]
      refine wpAny_Call_NameR ?_
      refine ev_glo (v := .ref 101) B S4 (by decide) ?_
      refine cf1 (Bs.fn B.f101) ?_
      refine ev_loc (x := "sign") S4 (.head _) hm ?_
      refine ⟨S4.keep, ?_⟩
      refine c_map_b3 B S4 (by show A.depth + 1 < 900; omega) (hok c hcm) fun t5 h5 tk5 S5 => ?_
      refine kt _ _ _ _ ⟨rfl, ?_⟩ S5
      rw [htk, prepL, List.filter_append, show [c].filter nb1 = [c] by simp [nb1, hb], List.map_append]
      exact strs_snoc hv _ _
  · rintro D vs K hp tk' ⟨rfl, hv⟩ S5
    rw [show prepL (cs.take cs.toArray.size) = prepL cs by rw [List.size_toArray, List.take_length]] at hv
    refine join0 S5 (.head _) hv hsum fun t' k' => ?_
    exact k _ _ _ S5.drop.drop
end
end Mine
end
/-! text B10 -/
section
open PySem PySem.W PyProof.Rows PySem.Spec PySem.Calls PySem.SeqAt
set_option maxRecDepth 100000
set_option linter.unusedVariables false
set_option maxHeartbeats 1000000
namespace Mine
noncomputable def intsOf : List PySem.Expr → Option (List Int)
  | [] => some []
  | .Constant (.int x) _ _ :: es => (intsOf es).map (x :: ·)
  | _ => none
noncomputable def strsOf : List PySem.Expr → Option (List Str)
  | [] => some []
  | .Constant (.str x) _ _ :: es => (strsOf es).map (x :: ·)
  | _ => none
noncomputable def strsP (xs : List Str) : PO := fun o => ∃ vs, StrsAre vs xs ∧ listP vs o
theorem strs_len : ∀ {vs : List Value} {xs : List Str}, StrsAre vs xs → vs.length = xs.length
  | _, _, .nil => rfl
  | _, _, .cons _ _ h => by rw [List.length_cons, List.length_cons, strs_len h]
theorem strs_get : ∀ {vs : List Value} {xs : List Str}, StrsAre vs xs → ∀ (i : Nat) (x : Str), xs[i]? = some x → ∃ t, vs[i]? = some (.str x t)
  | _, _, .nil, i, x, h => by simp at h
  | _, _, .cons n t h, 0, x, hx => by
    simp only [List.getElem?_cons_zero, Option.some.injEq] at hx
    exact ⟨t, by simp [hx]⟩
  | _, _, .cons n t h, i + 1, x, hx => by
    simp only [List.getElem?_cons_succ] at hx ⊢
    exact strs_get h i x hx
section
variable {w : World} {A : Around} {E : Value → Shared → Prop} {s : Shared} {t u : Tok} {h₀ : Gd} {H : Led} {env : Env}
theorem spl_ints {pos : Pos} : ∀ (elts : List PySem.Expr) (xs : List Int) (s : Shared) (Q : List Value → Shared → Prop), intsOf elts = some xs → (∀ vs tk, IntsAre vs xs → Q vs { s with toks := tk }) →
    wpAny (model pw w) A (spliced (backTo pos (starEach elts env))) Q E s
  | [], xs, s, Q, h, k => by
    simp only [intsOf, Option.some.injEq] at h
    subst h
    exact spliced_nil (k _ s.toks .nil)
  | e :: es, xs, s, Q, h, k => by
    unfold intsOf at h
    split at h
    · rename_i heq; cases heq
    · rename_i x kk p es' heq
      cases heq
      obtain ⟨ys, hy, rfl⟩ := Option.map_eq_some_iff.mp h
      show wpAny _ _ (spliced ((false, eval _ env) :: backTo pos (starEach es env))) _ _ _
      exact spliced_cons (wpAny_Constant_int (spl_ints es ys _ _ hy fun vs tk hv => k _ tk (.cons _ _ hv)))
    · cases h
theorem spl_strs {pos : Pos} : ∀ (elts : List PySem.Expr) (xs : List Str) (s : Shared) (Q : List Value → Shared → Prop), strsOf elts = some xs → (∀ vs tk, StrsAre vs xs → Q vs { s with toks := tk }) →
    wpAny (model pw w) A (spliced (backTo pos (starEach elts env))) Q E s
  | [], xs, s, Q, h, k => by
    simp only [strsOf, Option.some.injEq] at h
    subst h
    exact spliced_nil (k _ s.toks .nil)
  | e :: es, xs, s, Q, h, k => by
    unfold strsOf at h
    split at h
    · rename_i heq; cases heq
    · rename_i x kk p es' heq
      cases heq
      obtain ⟨ys, hy, rfl⟩ := Option.map_eq_some_iff.mp h
      show wpAny _ _ (spliced ((false, eval _ env) :: backTo pos (starEach es env))) _ _ _
      exact spliced_cons (Constant_str (spl_strs es ys _ _ hy fun vs tk hv => k _ tk (.cons _ _ hv)))
    · cases h
/-- a list of plain ints, written out -/
theorem lit_ints {elts : List PySem.Expr} {pos : Pos} {xs : List Int} {Q : Value → Shared → Prop} (S : St h₀ s.heap H) (he : intsOf elts = some xs) (hl : xs.length ≤ 1000)
    (k : ∀ r h' tk, St h₀ h' ((r, intsP xs) :: H) → Q (.ref r) { s with heap := h', toks := tk }) : wpAny (model pw w) A (eval (.List elts pos) env) Q E s :=
  wpAny_List (spl_ints elts xs s _ he fun vs tk hv => ⟨by rw [ints_len hv]; exact Nat.le_trans hl (by decide), k _ _ _ (S.push _ _ (intsP_of hv))⟩)
theorem lit_strs {elts : List PySem.Expr} {pos : Pos} {xs : List Str} {Q : Value → Shared → Prop} (S : St h₀ s.heap H) (he : strsOf elts = some xs) (hl : xs.length ≤ 1000)
    (k : ∀ r h' tk, St h₀ h' ((r, strsP xs) :: H) → Q (.ref r) { s with heap := h', toks := tk }) : wpAny (model pw w) A (eval (.List elts pos) env) Q E s :=
  wpAny_List (spl_strs elts xs s _ he fun vs tk hv => ⟨by rw [strs_len hv]; exact Nat.le_trans hl (by decide), k _ _ _ (S.push _ _ ⟨vs, hv, 0, rfl⟩)⟩)
theorem sub_vals {value slice : PySem.Expr} {l : Addr} {vs : List Value} {k : Int} {x : Value} {Q : Value → Shared → Prop} (S : St h₀ s.heap H) (hm : (l, listP vs) ∈ H) (h0 : 0 ≤ k) (hk : k < 2 ^ 63)
    (hx : vs[k.toNat]? = some x) (h : Q x s)
    (hs : subscripted slice false (.ref l) (.int k t) = operate [.ref l, .int k t] (getItem (.ref l) (.int k t)) := by with_unfolding_all rfl) :
    wpAny (model pw w) A (subscriptTail value slice (.ref l) (.int k t)) Q E s :=
  tail_any (S.plist hm).isList.typeIs slot_list_getitem.lookup (wpAny_getItem_list (S.plist hm).isList h0 hk (by simpa using hx) h) hs
theorem sub_strs {value slice : PySem.Expr} {l : Addr} {xs : List Str} {k : Int} {x : Str} {Q : Value → Shared → Prop} (S : St h₀ s.heap H) (hm : (l, strsP xs) ∈ H) (h0 : 0 ≤ k) (hk : k < 2 ^ 63)
    (hx : xs[k.toNat]? = some x) (h : ∀ t', Q (.str x t') s)
    (hs : subscripted slice false (.ref l) (.int k t) = operate [.ref l, .int k t] (getItem (.ref l) (.int k t)) := by with_unfolding_all rfl) :
    wpAny (model pw w) A (subscriptTail value slice (.ref l) (.int k t)) Q E s := by
  obtain ⟨o, e, vs, h1, n, h2⟩ := S.led _ hm
  obtain ⟨t', e'⟩ := strs_get h1 _ _ hx
  have hl : s.heap.IsList l vs.toArray := ⟨_, e, h2 ▸ rfl, n, h2 ▸ rfl⟩
  exact tail_any hl.typeIs slot_list_getitem.lookup (wpAny_getItem_list hl h0 hk (by simpa using e') (h t')) hs
/-- chr -/
theorem chr_n {c : Nat} {Q : Value → Shared → Prop} (hc : c ≤ 0x10FFFF) (h : ∀ t tk, Q (.str ⟨#[c]⟩ t) { s with toks := tk }) : wpAny (model pw w) A (call (.builtin "chr") [.int c t]) Q E s := by
  refine P.chr_of_int ?_ ?_
  · rw [decide_eq_false (by omega), decide_eq_false (by omega)]; rfl
  · rw [Int.toNat_natCast]; exact h _ _
/-- a list of two -/
theorem lit2 {e e' : PySem.Expr} {pos : Pos} {Q : Value → Shared → Prop}
    (h : wpAny (model pw w) A (eval e env) (fun v s₁ => wpAny (model pw w) A (eval e' env) (fun v' s₂ => ∃ (h₀ : Gd) (H : Led), St h₀ s₂.heap H ∧ ∀ r h', St h₀ h' ((r, listP [v, v']) :: H) → Q (.ref r) { s₂ with heap := h' }) E s₁) E s)
    (hs : starEach [e, e'] env = [(false, eval e env), (false, eval e' env)] := by rfl) : wpAny (model pw w) A (eval (.List [e, e'] pos) env) Q E s := by
  refine wpAny_List ?_
  rw [hs]
  refine spliced_cons (wpAny_mono h (fun v s₁ h₁ => spliced_cons (wpAny_mono h₁ (fun v' s₂ h₂ => spliced_nil ?_) fun _ _ x => x)) fun _ _ x => x)
  obtain ⟨h₀, H, S, k⟩ := h₂
  exact ⟨(by decide : 2 ≤ sizeLine), k _ _ (S.push _ _ ⟨0, rfl⟩)⟩
/-- ranges -/
theorem range1 {n : Nat} {Q : Value → Shared → Prop} (S : St h₀ s.heap H) (hn : n < 2 ^ 60) (k : ∀ r h' tk t₁ t₂ t₃, St h₀ h' ((r, fun o => o = { cls := .type "range", data := .fields #[.int 0 t₁, .int n t₂, .int 1 t₃] }) :: H) → Q (.ref r) { s with heap := h', toks := tk }) :
    wpAny (model pw w) A (call (.type "range") [.int n t]) Q E s := call_range_1 (k _ _ _ _ _ _ (S.push _ _ rfl))
theorem iter_range {r : Addr} {a b c : Int} {t₁ t₂ t₃ : Tok} {n : Nat} {Q : Value → Shared → Prop} (S : St h₀ s.heap H) (hm : (r, fun o => o = { cls := .type "range", data := .fields #[.int a t₁, .int b t₂, .int c t₃] }) ∈ H)
    (hsm : Builtin.Range.small a b c = true) (hn : Builtin.Range.rangeSize a b c = n)
    (k : ∀ I h', Steps w I (fun i => riP (a + i * c) ((n : Int) - i) c) n (fun i v => ∃ t, v = .int (a + i * c) t) [] → St h₀ h' ((I, riP (a + (0 : Nat) * c) ((n : Int) - (0 : Nat)) c) :: H) → Q (.ref I) { s with heap := h' }) :
    wpAny (model pw w) A (pyIter (.ref r)) Q E s := by
  obtain ⟨o, e, h1⟩ := S.led _ hm
  have h1 : o = _ := h1
  subst h1
  refine wpAny_pyIter_range e hsm (k _ _ (steps_range w _ a c n) (S.push _ _ ?_))
  rw [hn]
  simp [riP]
end
end Mine
end
/-! text C9b -/
section
open PySem PySem.W PyProof.Rows PySem.Spec PySem.Calls PySem.SeqAt
set_option maxRecDepth 100000
set_option linter.unusedVariables false
set_option maxHeartbeats 200000
namespace Mine
noncomputable def ligs : List Str := ["ff", "fi", "fl", "ffi", "ffl", "st", "st"]
noncomputable def besideL : List Nat := [172, 174, 846, 848, 6149, 6151, 6154, 6158, 8202, 8206, 8287, 8289, 65023, 65040, 65278, 65280]
noncomputable def runs : List (Nat × Nat) := [(173, 1), (847, 1), (6150, 1), (6155, 3), (8203, 3), (8288, 1), (65024, 16), (65279, 1)]
noncomputable def heldL : List Nat := (runs.map fun p => (List.range p.2).map (p.1 + ·)).flatten
noncomputable def basesL : List Nat := [97, 65, 119808, 119860, 119912, 120016, 120172, 120224, 120276, 120328, 120380, 120432]
noncomputable def alphL : List Nat := [0, 1, 2, 4, 7, 8, 9, 10, 11, 12]
/-- the sign that a number stands for, and its meaning -/
noncomputable def sgn (n : Int) : Nat × Str :=
  if n % 4 = 0 then (64256 + (n / 4 % 7).toNat, ligs.getD (n / 4 % 7).toNat Str.empty)
  else if n % 4 = 3 then (if (n / 4 % 43).toNat < 27 then (heldL.getD (n / 4 % 43).toNat 0, Str.empty) else (besideL.getD ((n / 4 % 43).toNat - 27) 0, ⟨#[besideL.getD ((n / 4 % 43).toNat - 27) 0]⟩))
  else if n % 4 = 1 then (basesL.getD (n / 4 / 5 % 12).toNat 0 + [5, 8, 11, 18, 19].getD (n / 4 % 5).toNat 0, ⟨#[97 + [5, 8, 11, 18, 19].getD (n / 4 % 5).toNat 0]⟩)
  else (basesL.getD (n / 4 / 26 % 12).toNat 0 + (n / 4 % 26).toNat, ⟨#[97 + (n / 4 % 26).toNat]⟩)
noncomputable def pieceP (p : Nat × Str) : PO := fun o => ∃ t1 t2, listP [.str ⟨#[p.1]⟩ t1, .str p.2 t2] o
theorem getD_some {α : Type} (xs : List α) (k : Nat) (d : α) (h : k < xs.length) : xs[k]? = some (xs.getD k d) := by
  rw [List.getD_eq_getElem?_getD, List.getElem?_eq_getElem h]; rfl
section
variable {w : World} {A : Around} {E : Value → Shared → Prop} {s : Shared} {t u : Tok} {h₀ : Gd} {H : Led} {env : Env}
theorem modn {a : Int} {b : Nat} (hb : 0 < b) {Q : Value → Shared → Prop} (h : Q (.int ((a % (b : Int)).toNat : Nat) s.toks) { s with toks := s.toks + 1 }) : wpAny (model pw w) A (binaryOp .Mod (.int a t) (.int (b : Int) u)) Q E s := by
  refine mod_to _ ?_ (by omega) h
  rw [Int.fmod_eq_emod_of_nonneg _ (by omega)]
  have := Int.emod_nonneg a (show (b : Int) ≠ 0 by omega)
  omega
theorem fdivn {a : Int} {b : Nat} (hb : 0 < b) (hb2 : b < 1000) {Q : Value → Shared → Prop} (h : Q (.int (a / (b : Int)) s.toks) { s with toks := s.toks + 1 }) : wpAny (model pw w) A (binaryOp .FloorDiv (.int a t) (.int (b : Int) u)) Q E s :=
  fdiv_to _ (Int.fdiv_eq_ediv_of_nonneg _ (by omega)) (by omega) (PyProof.noPylong_small (by omega)) h
theorem sub_nats {value slice : PySem.Expr} {l : Addr} {xs : List Nat} {k : Nat} {Q : Value → Shared → Prop} (S : St h₀ s.heap H) (hm : (l, intsP (natL xs)) ∈ H) (hk : k < xs.length) (hl : xs.length < 1000)
    (h : ∀ t', Q (.int (xs.getD k 0 : Nat) t') s)
    (hs : subscripted slice false (.ref l) (.int k t) = operate [.ref l, .int k t] (getItem (.ref l) (.int k t)) := by with_unfolding_all rfl) :
    wpAny (model pw w) A (subscriptTail value slice (.ref l) (.int k t)) Q E s := by
  refine sub_ints S hm (by omega) (by omega) (x := (xs.getD k 0 : Nat)) ?_ h hs
  rw [Int.toNat_natCast, List.getElem?_map, getD_some xs k 0 hk]; rfl
theorem range2 {a b : Int} {Q : Value → Shared → Prop} (S : St h₀ s.heap H) (k : ∀ r h' tk t₁ t₂ t₃, St h₀ h' ((r, fun o => o = { cls := .type "range", data := .fields #[.int a t₁, .int b t₂, .int 1 t₃] }) :: H) → Q (.ref r) { s with heap := h', toks := tk }) :
    wpAny (model pw w) A (call (.type "range") [.int a t, .int b u]) Q E s := call_range_2 (k _ _ _ _ _ _ (S.push _ _ rfl))
theorem range3 {a b c : Int} {v : Tok} {Q : Value → Shared → Prop} (S : St h₀ s.heap H) (hc : c ≠ 0) (hc2 : c.natAbs < 100) (k : ∀ r h' tk t₁ t₂ t₃, St h₀ h' ((r, fun o => o = { cls := .type "range", data := .fields #[.int a t₁, .int b t₂, .int c t₃] }) :: H) → Q (.ref r) { s with heap := h', toks := tk }) :
    wpAny (model pw w) A (call (.type "range") [.int a t, .int b u, .int c v]) Q E s := call_range_3 hc (k _ _ _ _ _ _ (S.push _ _ rfl)) (Or.inl (PyProof.noPylong_small (by omega)))


noncomputable def br3 : List Stmt := match ((fbody (pst 11)).getD 2 (.Pass ⟨0, 0, 0, 0⟩)) with
  | .If _ b _ _ => b
  | _ => []
noncomputable abbrev env11 (pm : Value) (L : Addr) : Env := callEnvC (mkFd (pst 11) .none .none pm (.ref 105)) L 106
theorem sign3a {pm : Value} {L : Addr} {m : Str → Option Value} {Q : Flow → Shared → Prop} (S : St h₀ s.heap ((L, nsP m) :: (L + 1, cellP none) :: H))
    (k : ∀ rb h' tk, St h₀ h' ((rb, intsP (natL besideL)) :: (L, nsP m) :: (L + 1, cellP (some (.ref rb))) :: H) → wpAny (model pw w) A (execs (br3.drop 1) (env11 pm L)) Q E { s with heap := h', toks := tk }) :
    wpAny (model pw w) A (execs br3 (env11 pm L)) Q E s := by
  refine wpAny_execs_cons ?_
  refine wpAny_Assign_Name ?_
  refine lit_ints (h₀ := h₀) (H := ?HH) (xs := natL besideL) ?s1 ?s2 ?s3 ?s4
  case s1 => exact S
  case s2 => kernel_rfl
  case s3 => decide
  case s4 =>
  intro rb h3 tk3 S3
  refine st_cel (x := "beside") (c := L + 1) S3 rfl (.tail (.tail .head)) fun h4 tk4 S4 => ?_
  exact k _ _ _ S4

noncomputable def runS (i : Nat) : Nat := (runs.getD i (0, 0)).1
noncomputable def runC (i : Nat) : Nat := (runs.getD i (0, 0)).2
theorem run_facts : ∀ i < 8, besideL.getD (2 * i) 0 + 1 = runS i ∧ besideL.getD (2 * i + 1) 0 = runS i + runC i ∧ 0 < runC i ∧ runC i ≤ 16 ∧ runS i < 70000 := by decide
noncomputable def heldTo (i : Nat) : List Nat := ((runs.take i).map fun p => (List.range p.2).map (p.1 + ·)).flatten
theorem heldTo_succ (i : Nat) (h : i < 8) : heldTo (i + 1) = heldTo i ++ (List.range (runC i)).map (runS i + ·) := by
  have e : runs.take (i + 1) = runs.take i ++ [(runS i, runC i)] := by
    rw [List.take_add_one, getD_some runs i (0, 0) h]; rfl
  rw [heldTo, e, List.map_append, List.flatten_append]; simp [heldTo]
theorem held_len : ∀ i ≤ 8, (heldTo i).length ≤ 40 := by decide
theorem small_of {a b : Int} (ha : 0 ≤ a) (hab : a < b) (hb : b < 100000) : Builtin.Range.small a b 1 = true := by
  have e : Builtin.Range.rangeSize a b 1 = b - a := by rw [rangeSize_one, if_pos hab]
  unfold Builtin.Range.small
  rw [e]
  simp only [Builtin.Range.rangeFitsLong, Bool.and_eq_true, Bool.or_eq_true, decide_eq_true_eq]
  refine ⟨⟨⟨⟨?_, ?_⟩, ?_⟩, ?_⟩, Or.inr ?_⟩
  all_goals first
    | (constructor <;> omega)
    | (rw [if_pos (by decide)]; simp only [Bool.and_eq_true, decide_eq_true_eq]; constructor <;> omega)
    | decide
theorem sign3b {pm : Value} {L rb : Addr} {m : Str → Option Value} {Q : Flow → Shared → Prop} (B : Bs w h₀) (hh : A.handled = none) (S : St h₀ s.heap ((rb, intsP (natL besideL)) :: (L, nsP m) :: (L + 1, cellP (some (.ref rb))) :: H))
    (k : ∀ rh h' tk, St h₀ h' ((rh, intsP (natL heldL)) :: (rb, intsP (natL besideL)) :: (L, nsP fun y => if y = "held" then some (.ref rh) else m y) :: (L + 1, cellP (some (.ref rb))) :: H) →
      wpAny (model pw w) A (execs (br3.drop 2) (env11 pm L)) Q E { s with heap := h', toks := tk }) :
    wpAny (model pw w) A (execs (br3.drop 1) (env11 pm L)) Q E s := by
  refine wpAny_execs_cons ?_
  refine lc2A (cl := [("beside", L + 1)]) (by rfl) (by rfl) hh (fun i j vs => IntsAre vs (natL (heldTo i ++ (List.range j).map (runS i + ·))) ∧ i ≤ 8 ∧ j ≤ 16) ?_
  refine wpAny_Call_NameR ?_
  refine ev_blt B S (v := .type "range") (by decide) (by decide +kernel) ?_
  refine ct3 ?_
  refine wpAny_Constant_int ?_
  refine wpAny_Constant_int ?_
  refine wpAny_Constant_int ?_
  refine range3 S (by decide) (by decide) fun r h1 tk1 t1 t2 t3 S1 => ?_
  refine iter_range S1 (.head _) (n := 8) (by decide) (by decide) fun I h2 W S2 => ?_
  refine ⟨I, _, _, _, _, _, _, rfl, W, (fun _ hp => nomatch hp), S2, ⟨.nil, Nat.zero_le _, Nat.zero_le _⟩, ?_, ?_, ?_⟩
  · rintro i j vs ⟨hv, hi, hj⟩
    rw [ints_len hv, natL_length, List.length_append, List.length_map, List.length_range]
    have := held_len i hi
    omega
  · rintro A' i v C D mC vs hp tk E' Q' hh' hi ⟨tv, rfl⟩ ⟨hv, -, -⟩ hm S3 kk
    obtain ⟨f1, f2, f3, f4, f5⟩ := run_facts i hi
    have ei : (0 : Int) + (i : Int) * 2 = ((2 * i : Nat) : Int) := by omega
    rw [ei] at hm
    refine wpAny_Call_NameR ?_
    refine ev_blt B S3 (v := .type "range") (by decide) (by decide +kernel) ?_
    refine ct2 ?_
    refine wpAny_BinOp ?_
    refine Subscript_ ?_
    refine ev_cel (x := "beside") (c := L + 1) S3 (by walk_at "mem") rfl ?_
    refine ev_loc (x := "k") S3 (.head _) hm ?_
    refine sub_nats S3 (.tail _ (.tail _ (.tail _ (.tail _ (.head _))))) (show 2 * i < 16 by omega) (by decide) fun t4 => ?_
    refine wpAny_Constant_int ?_
    refine add_to ((runS i : Nat) : Int) (by omega) ?_
    refine Subscript_ ?_
    refine ev_cel (x := "beside") (c := L + 1) S3 (by walk_at "mem") rfl ?_
    refine wpAny_BinOp ?_
    refine ev_loc (x := "k") S3 (.head _) hm ?_
    refine wpAny_Constant_int ?_
    refine addn (a := 2 * i) (b := 1) ?_
    refine sub_nats S3 (.tail _ (.tail _ (.tail _ (.tail _ (.head _))))) (show 2 * i + 1 < 16 by omega) (by decide) fun t5 => ?_
    rw [f2]
    refine range2 S3 fun r2 h4 tk4 u1 u2 u3 S4 => ?_
    refine iter_range S4 (.head _) (n := runC i) (small_of (by omega) (by omega) (by omega)) (by rw [rangeSize_one, if_pos (by omega)]; omega) fun I2 h5 W2 S5 => ?_
    have S6 := (S5.sub (.cons_cons _ (.cons _ (List.Sublist.refl _)))).swap
    refine kk I2 _ _ _ h5 _ W2 S6 ?_ ?_
    · rintro A'' j v2 m2 vs2 hp2 tk2 E2 Q2 hj ⟨tv2, rfl⟩ ⟨hv2, -, -⟩ hm2 - S7 k2
      have ej : (runS i : Int) + (j : Int) * 1 = ((runS i + j : Nat) : Int) := by omega
      rw [ej] at hm2
      refine ev_loc (x := "code") S7 (.head _) hm2 ?_
      refine k2 _ _ _ ⟨?_, by omega, by omega⟩ S7
      rw [List.range_succ, List.map_append, ← List.append_assoc, natL_append]
      exact ints_snoc hv2 _ _
    · rintro vs2 ⟨hv2, -, -⟩
      refine ⟨?_, by omega, Nat.zero_le _⟩
      rw [heldTo_succ i hi]
      simpa using hv2
  · rintro vs ⟨hv, -, -⟩
    refine ⟨m, fun rh => _, fun rh => ⟨.tail (.tail .head), fun hp tk S8 => ?_⟩⟩
    have e : heldTo 8 ++ (List.range 0).map (runS 8 + ·) = heldL := by decide
    rw [e] at hv
    refine k rh hp tk (St.sub (S8.weak (P' := intsP (natL heldL)) fun o ho => ⟨vs, hv, ho⟩) ?_)
    exact .cons_cons _ (.cons _ (List.Sublist.refl _))
end
end Mine
end
/-! text C9 -/
section
open PySem PySem.W PyProof.Rows PySem.Spec PySem.Calls PySem.SeqAt
set_option maxRecDepth 100000
set_option linter.unusedVariables false
set_option maxHeartbeats 1000000
namespace Mine
section
variable {w : World} {A : Around} {E : Value → Shared → Prop} {s : Shared} {t u : Tok} {h₀ : Gd} {H : Led} {env : Env}
theorem _root_.Mine.St.at {h : Heap} {a : Addr} {P P' : PO} {H : Led} (S : St h₀ h ((a, P) :: H)) (x : ∃ o, h.get? a = some o ∧ P' o) : St h₀ h ((a, P') :: H) := by
  refine ⟨S.keep, fun q hq => ?_, S.nodup, fun q hq => ?_, S.t1, S.t2, S.o1, S.o2⟩
  · rcases List.mem_cons.mp hq with rfl | hq
    · exact x
    · exact S.led q (.tail _ hq)
  · rcases List.mem_cons.mp hq with rfl | hq
    · exact S.off (a, P) (.head _)
    · exact S.off q (.tail _ hq)
theorem modq {a : Int} {b q : Nat} (e : (a % (b : Int)).toNat = q) (hb : 0 < b) {Q : Value → Shared → Prop} (h : Q (.int (q : Nat) s.toks) { s with toks := s.toks + 1 }) : wpAny (model pw w) A (binaryOp .Mod (.int a t) (.int (b : Int) u)) Q E s := by
  subst e; exact modn hb h
theorem sign3c {pm : Value} {L rb rh : Addr} {n : Int} {tw : Tok} {m : Str → Option Value} {Q : Flow → Shared → Prop} (B : Bs w h₀) (h0 : ¬ n % 4 = 0) (h3 : n % 4 = 3) (mw : m "which" = some (.int (n / 4) tw)) (mh : m "held" = some (.ref rh))
    (S : St h₀ s.heap ((rh, intsP (natL heldL)) :: (rb, intsP (natL besideL)) :: (L, nsP m) :: (L + 1, cellP (some (.ref rb))) :: H))
    (k : ∀ r h' tk, St h₀ h' ((r, pieceP (sgn n)) :: H) → Q (.ret (.ref r)) { s with heap := h', toks := tk }) :
    wpAny (model pw w) A (execs (br3.drop 2) (env11 pm L)) Q E s := by
  have e0 : sgn n = if (n / 4 % 43).toNat < 27 then (heldL.getD (n / 4 % 43).toNat 0, Str.empty) else (besideL.getD ((n / 4 % 43).toNat - 27) 0, ⟨#[besideL.getD ((n / 4 % 43).toNat - 27) 0]⟩) := by rw [sgn, if_neg h0, if_pos h3]
  refine wpAny_execs_cons ?_
  refine wpAny_If ?_
  refine wpAny_isTrue_Compare1 ?_ rfl
  refine wpAny_BinOp ?_
  refine ev_loc (x := "which") S (.tail _ (.tail _ (.head _))) mw ?_
  refine wpAny_Constant_int ?_
  have h43 : (n / 4 % ((43 : Nat) : Int)).toNat < 43 := by omega
  generalize hq0 : (n / 4 % ((43 : Nat) : Int)).toNat = q at h43
  have hq1 : (n / 4 % 43).toNat = q := hq0
  rw [hq1] at e0
  refine modq (b := 43) hq0 (by decide) ?_
  refine wpAny_Constant_int ?_
  refine wpAny_lt_int ?_
  refine wpAny_truthy_bool ?_
  by_cases hq : q < 27
  · rw [if_pos hq] at e0
    refine ite_t (decide_eq_true (show (q : Int) < 27 by omega)) ?_
    refine wpAny_execs_cons ?_
    refine wpAny_Return_some ?_
    refine lit2 ?_
    refine wpAny_Call_NameR ?_
    refine ev_blt B S (v := .builtin "chr") (by decide) (by decide +kernel) ?_
    refine cb1 ?_
    refine Subscript_ ?_
    refine ev_loc (x := "held") S (.tail _ (.tail _ (.head _))) mh ?_
    refine wpAny_BinOp ?_
    refine ev_loc (x := "which") S (.tail _ (.tail _ (.head _))) mw ?_
    refine wpAny_Constant_int ?_
    refine modq (b := 43) hq0 (by decide) ?_
    refine sub_nats S (.head _) (show q < 27 from hq) (by decide) fun t1 => ?_
    have hb : ∀ q < 27, heldL.getD q 0 ≤ 0x10FFFF := by decide
    refine chr_n (hb q hq) fun t2 tk2 => ?_
    refine Constant_str ?_
    refine ⟨h₀, _, S, fun r h4 S4 => k _ _ _ (St.sub (S4.weak (P' := pieceP (sgn n)) fun o ho => ?_) (.cons_cons _ (.cons _ (.cons _ (.cons _ (.cons _ (List.Sublist.refl _)))))))⟩
    rw [e0]
    exact ⟨_, _, ho⟩
  · rw [if_neg hq] at e0
    refine ite_f (decide_eq_false (show ¬ (q : Int) < 27 by omega)) ?_
    refine wpAny_execs_nil ?_
    refine wpAny_execs_cons ?_
    refine wpAny_Return_some ?_
    have hb : ∀ q < 16, besideL.getD q 0 ≤ 0x10FFFF := by decide
    refine lit2 ?_
    refine wpAny_Call_NameR ?_
    refine ev_blt B S (v := .builtin "chr") (by decide) (by decide +kernel) ?_
    refine cb1 ?_
    refine Subscript_ ?_
    refine ev_cel (x := "beside") (c := L + 1) S (by walk_at "mem") rfl ?_
    refine wpAny_BinOp ?_
    refine wpAny_BinOp ?_
    refine ev_loc (x := "which") S (.tail _ (.tail _ (.head _))) mw ?_
    refine wpAny_Constant_int ?_
    refine modq (b := 43) hq0 (by decide) ?_
    refine wpAny_Constant_int ?_
    refine sub_to ((q - 27 : Nat) : Int) (by omega) ?_
    refine sub_nats S (.tail _ (.head _)) (show q - 27 < 16 by omega) (by decide) fun t1 => ?_
    refine chr_n (hb (q - 27) (by omega)) fun t2 tk2 => ?_
    refine wpAny_Call_NameR ?_
    refine ev_blt B S (v := .builtin "chr") (by decide) (by decide +kernel) ?_
    refine cb1 ?_
    refine Subscript_ ?_
    refine ev_cel (x := "beside") (c := L + 1) S (by walk_at "mem") rfl ?_
    refine wpAny_BinOp ?_
    refine wpAny_BinOp ?_
    refine ev_loc (x := "which") S (.tail _ (.tail _ (.head _))) mw ?_
    refine wpAny_Constant_int ?_
    refine modq (b := 43) hq0 (by decide) ?_
    refine wpAny_Constant_int ?_
    refine sub_to ((q - 27 : Nat) : Int) (by omega) ?_
    refine sub_nats S (.tail _ (.head _)) (show q - 27 < 16 by omega) (by decide) fun t1 => ?_
    refine chr_n (hb (q - 27) (by omega)) fun t2 tk2 => ?_
    refine ⟨h₀, _, S, fun r h4 S4 => k _ _ _ (St.sub (S4.weak (P' := pieceP (sgn n)) fun o ho => ?_) (.cons_cons _ (.cons _ (.cons _ (.cons _ (.cons _ (List.Sublist.refl _)))))))⟩
    rw [e0]
    exact ⟨_, _, ho⟩

/-- behind the choice of letter and form -/
theorem sign_fin {pm : Value} {L : Addr} {n : Int} {m : Str → Option Value} {lt fm : Nat} {t1 t2 : Tok} {Q : Flow → Shared → Prop} (B : Bs w h₀) (hh : A.handled = none) (hlt : lt < 26) (hfm : fm < 12) (hsg : sgn n = (basesL.getD fm 0 + lt, ⟨#[97 + lt]⟩))
    (hml : m "letter" = some (.int lt t1)) (hmf : m "form" = some (.int fm t2)) (S : St h₀ s.heap ((L, nsP m) :: (L + 1, cellP none) :: H))
    (k : ∀ r h' tk, St h₀ h' ((r, pieceP (sgn n)) :: H) → Q (.ret (.ref r)) { s with heap := h', toks := tk }) :
    wpAny (model pw w) A (execs ((fbody (pst 11)).drop 4) (env11 pm L)) Q E s := by
  refine wpAny_execs_cons ?_
  refine wpAny_Assign_Name ?_
  refine wpAny_BinOp ?_
  refine lit_ints S (xs := [97, 65]) rfl (by decide) fun r1 h3 tk3 S3 => ?_
  refine @lc w _ _ _ _ _ _ _ _ _ _ [] _ _ (by rfl) hh ?_ (by decide) (by rfl) (by decide) (by rfl) (by intro _; rfl)
  refine lit_ints (h₀ := h₀) (H := ?HH) (xs := natL alphL) ?s1 ?s2 ?s3 ?s4
  case s1 => exact S3
  case s2 => kernel_rfl
  case s3 => decide
  case s4 =>
  intro r2 h4 tk4 S4
  obtain ⟨o, e2, vs2, hv2, n2, ho⟩ := S4.led _ (.head _)
  have S4 : St h₀ h4 ((r2, listP vs2) :: (r1, intsP [97, 65]) :: (L, nsP m) :: (L + 1, cellP none) :: H) := S4.at (by exact ⟨o, e2, n2, ho⟩)
  refine iter_list S4 (.head _) fun I h5 W S5 => ?_
  have hl2 : vs2.length = 10 := by rw [ints_len hv2]; rfl
  refine ⟨fun i vs K => K = (r2, listP vs2) :: (r1, intsP [97, 65]) :: (L, nsP m) :: (L + 1, cellP none) :: H ∧ IntsAre vs ((alphL.take i).map fun (a : Nat) => ((119808 + 52 * a : Nat) : Int)), I, _, _, _, _, _, _, rfl, W, by rw [hl2]; decide, ?_, S5, ⟨rfl, .nil⟩, ?_, ?_⟩
  · rintro i vs K ⟨rfl, -⟩ p hp
    rw [List.mem_singleton.mp hp]
    exact .head _
  · rintro i v C D mC K vs hp tk' E' Qt Qf hi hv ⟨rfl, hvs⟩ hm hvl S6 kt kf
    rw [hl2] at hi
    obtain ⟨tv, ev⟩ := ints_get hv2 i ((alphL.getD i 0 : Nat) : Int) (by rw [List.getElem?_map, getD_some alphL i 0 hi]; rfl)
    have ev : v = .int (alphL.getD i 0 : Nat) tv := Option.some.inj (hv.symm.trans ev)
    subst ev
    refine no_tests ?_
    refine ite_t rfl ?_
    refine wpAny_BinOp ?_
    refine wpAny_Constant_int ?_
    refine wpAny_BinOp ?_
    refine wpAny_Constant_int ?_
    refine ev_loc (x := "alphabet") S6 (.head _) hm ?_
    refine mul_to ((52 * alphL.getD i 0 : Nat) : Int) (by simp) (IntMulOk.of_left (by decide)) ?_
    refine add_to ((119808 + 52 * alphL.getD i 0 : Nat) : Int) (by simp) ?_
    refine kt _ _ _ _ ⟨rfl, ?_⟩ S6
    have htk : alphL.take (i + 1) = alphL.take i ++ [alphL.getD i 0] := by rw [List.take_add_one, getD_some alphL i 0 hi]; rfl
    rw [htk, List.map_append]
    exact ints_snoc hvs _ _
  · rintro D vs K hp tk' ⟨rfl, hvs⟩ S6
    rw [hl2] at hvs
    have S7 : St h₀ hp ((D, intsP ((alphL.take 10).map fun (a : Nat) => ((119808 + 52 * a : Nat) : Int))) :: _) := S6.weak fun o ho => ⟨vs, hvs, ho⟩
    refine add_ints S7 (.tail _ (.tail _ (.head _))) (.head _) (by decide) fun rb h8 S8 => ?_
    have eb : [97, 65] ++ ((alphL.take 10).map fun (a : Nat) => ((119808 + 52 * a : Nat) : Int)) = natL basesL := by decide
    rw [eb] at S8
    refine st_loc (x := "bases") S8 (.tail (.tail (.tail (.tail .head)))) fun h9 tk9 S9 => ?_
    refine wpAny_execs_cons ?_
    refine wpAny_Return_some ?_
    refine lit2 ?_
    refine wpAny_Call_NameR ?_
    refine ev_blt B S9 (v := .builtin "chr") (by decide) (by decide +kernel) ?_
    refine cb1 ?_
    refine wpAny_BinOp ?_
    refine Subscript_ ?_
    refine ev_loc (x := "bases") S9 (.tail _ (.tail _ (.tail _ (.tail _ (.head _))))) rfl ?_
    refine ev_loc (x := "form") S9 (.tail _ (.tail _ (.tail _ (.tail _ (.head _))))) hmf ?_
    refine sub_nats S9 (.head _) (show fm < 12 from hfm) (by decide) fun t5 => ?_
    refine ev_loc (x := "letter") S9 (.tail _ (.tail _ (.tail _ (.tail _ (.head _))))) hml ?_
    refine addn ?_
    have hb : ∀ q < 12, basesL.getD q 0 ≤ 121000 := by decide
    have hb := hb fm hfm
    refine chr_n (by omega) fun t6 tk6 => ?_
    refine wpAny_Call_NameR ?_
    refine ev_blt B S9 (v := .builtin "chr") (by decide) (by decide +kernel) ?_
    refine cb1 ?_
    refine wpAny_BinOp ?_
    refine wpAny_Constant_int ?_
    refine ev_loc (x := "letter") S9 (.tail _ (.tail _ (.tail _ (.tail _ (.head _))))) hml ?_
    refine addn (a := 97) ?_
    refine chr_n (by omega) fun t7 tk7 => ?_
    refine ⟨h₀, _, S9, fun r h4 S4 => k _ _ _ (St.sub (S4.weak (P' := pieceP (sgn n)) fun o ho => ?_) (.cons_cons _ (.cons _ (.cons _ (.cons _ (.cons _ (.cons _ (.cons _ (List.Sublist.refl _)))))))))⟩
    rw [hsg]
    exact ⟨_, _, ho⟩

theorem c_sign {n : Int} {tn : Tok} {Q : Value → Shared → Prop} (B : Bs w h₀) (S : St h₀ s.heap H) (hA : A.depth < 800) (hh : A.handled = none)
    (k : ∀ r h' tk, St h₀ h' ((r, pieceP (sgn n)) :: H) → Q (.ref r) { s with heap := h', toks := tk }) :
    wpAny (model pw w) A (call (.ref 106) [.int n tn] []) Q E s := by
  obtain ⟨pm, hf⟩ := B.f106
  refine call_fnC (args := ⟨[.int n tn], []⟩) (binds := [("n", .int n tn)]) B S (Nat.lt_of_lt_of_le hA (by decide)) (S.keep _ _ hf) rfl (B.c105.keeps S.keep) rfl (BindsTo.of_eq rfl) rfl (fun L h' tk hL S1 => ?_) (hnd := (by decide : ((cellsFrom 0 (fscope (pst 11)).names []).map (·.1)).Nodup))
  have S1 : St h₀ h' ((L, nsP fun y => if y = "n" then some (.int n tn) else none) :: (L + 1, cellP none) :: H) := S1
  refine wpAny_execs_cons ?_
  refine wpAny_Assign_Name ?_
  refine wpAny_BinOp ?_
  refine ev_loc (x := "n") S1 (.head _) rfl ?_
  refine wpAny_Constant_int ?_
  refine fdivn (b := 4) (by decide) (by decide) ?_
  refine st_loc (x := "which") S1 .head fun h2 tk2 S2 => ?_
  -- if n % 4 == 0
  refine wpAny_execs_cons ?_
  refine wpAny_If ?_
  refine wpAny_isTrue_Compare1 ?_ rfl
  refine wpAny_BinOp ?_
  refine ev_loc (x := "n") S2 (.head _) rfl ?_
  refine wpAny_Constant_int ?_
  refine modn (b := 4) (by decide) ?_
  refine wpAny_Constant_int ?_
  refine eq_to (decide (n % 4 = 0)) (by rw [Bool.eq_iff_iff]; simp; omega) ?_
  refine wpAny_truthy_bool ?_
  by_cases h0 : n % 4 = 0
  · refine ite_t (decide_eq_true h0) ?_
    refine wpAny_execs_cons ?_
    refine wpAny_Return_some ?_
    refine lit2 ?_
    refine wpAny_Call_NameR ?_
    refine ev_blt B S2 (v := .builtin "chr") (by decide) (by decide +kernel) ?_
    refine cb1 ?_
    refine wpAny_BinOp ?_
    refine wpAny_Constant_int ?_
    refine wpAny_BinOp ?_
    refine ev_loc (x := "which") S2 (.head _) rfl ?_
    refine wpAny_Constant_int ?_
    refine modn (b := 7) (by decide) ?_
    refine add_to ((64256 + (n / 4 % 7).toNat : Nat) : Int) (by omega) ?_
    refine chr_n (by omega) fun t1 tk3 => ?_
    refine Subscript_ ?_
    refine lit_strs S2 (xs := ligs) rfl (by decide) fun r h3 tk4 S3 => ?_
    refine wpAny_BinOp ?_
    refine ev_loc (x := "which") S3 (.tail _ (.head _)) rfl ?_
    refine wpAny_Constant_int ?_
    refine modn (b := 7) (by decide) ?_
    refine sub_strs S3 (.head _) (by omega) (by omega) (x := ligs.getD (n / 4 % 7).toNat Str.empty) (by rw [Int.toNat_natCast]; exact getD_some _ _ _ (by show (n / 4 % 7).toNat < 7; omega)) fun t2 => ?_
    refine ⟨h₀, _, S3.drop, fun r h4 S4 => k _ _ _ (St.sub (S4.weak (P' := pieceP (sgn n)) fun o ho => ?_) (.cons_cons _ (.cons _ (.cons _ (List.Sublist.refl _)))))⟩
    rw [sgn, if_pos h0]
    exact ⟨_, _, ho⟩
  refine ite_f (decide_eq_false h0) ?_
  refine wpAny_execs_nil ?_
  refine wpAny_execs_cons ?_
  refine wpAny_If ?_
  refine wpAny_isTrue_Compare1 ?_ rfl
  refine wpAny_BinOp ?_
  refine ev_loc (x := "n") S2 (.head _) rfl ?_
  refine wpAny_Constant_int ?_
  refine modn (b := 4) (by decide) ?_
  refine wpAny_Constant_int ?_
  refine eq_to (decide (n % 4 = 3)) (by rw [Bool.eq_iff_iff]; simp; omega) ?_
  refine wpAny_truthy_bool ?_
  by_cases h3 : n % 4 = 3
  · refine ite_t (decide_eq_true h3) ?_
    refine @sign3a w _ _ _ h₀ H pm L _ _ S2 ?_
    intro rb h5 tk5 S5
    refine sign3b B hh S5 fun rh h6 tk6 S6 => ?_
    exact sign3c (tw := _) B h0 h3 rfl rfl S6 fun r h7 tk7 S7 => k _ _ _ S7
  refine ite_f (decide_eq_false h3) ?_
  refine wpAny_execs_nil ?_
  refine wpAny_execs_cons ?_
  refine wpAny_If ?_
  refine wpAny_isTrue_Compare1 ?_ rfl
  refine wpAny_BinOp ?_
  refine ev_loc (x := "n") S2 (.head _) rfl ?_
  refine wpAny_Constant_int ?_
  refine modn (b := 4) (by decide) ?_
  refine wpAny_Constant_int ?_
  refine eq_to (decide (n % 4 = 1)) (by rw [Bool.eq_iff_iff]; simp; omega) ?_
  refine wpAny_truthy_bool ?_
  by_cases h1 : n % 4 = 1
  · refine ite_t (decide_eq_true h1) ?_
    refine wpAny_execs_cons ?_
    refine wpAny_Assign_Name ?_
    refine Subscript_ ?_
    refine lit_ints S2 (xs := natL [5, 8, 11, 18, 19]) rfl (by decide) fun r1 h33 tk3 S3 => ?_
    refine wpAny_BinOp ?_
    refine ev_loc (x := "which") S3 (.tail _ (.head _)) rfl ?_
    refine wpAny_Constant_int ?_
    refine modn (b := 5) (by decide) ?_
    have h5 : (n / 4 % 5).toNat < 5 := by omega
    refine sub_nats S3 (.head _) h5 (by decide) fun t1 => ?_
    refine st_loc (x := "letter") S3.drop .head fun h4 tk4 S4 => ?_
    refine wpAny_execs_cons ?_
    refine wpAny_Assign_Name ?_
    refine wpAny_BinOp ?_
    refine wpAny_BinOp ?_
    refine ev_loc (x := "which") S4 (.head _) rfl ?_
    refine wpAny_Constant_int ?_
    refine fdivn (b := 5) (by decide) (by decide) ?_
    refine wpAny_Constant_int ?_
    refine modn (b := 12) (by decide) ?_
    refine st_loc (x := "form") S4 .head fun h5' tk5 S5 => ?_
    refine wpAny_execs_nil ?_
    have hl : [5, 8, 11, 18, 19].getD (n / 4 % 5).toNat 0 < 26 := by
      have : ∀ k < 5, [5, 8, 11, 18, 19].getD k 0 < 26 := by decide
      exact this _ h5
    refine @sign_fin w _ _ _ h₀ H pm L n _ _ _ _ _ _ B hh hl (show (n / 4 / 5 % 12).toNat < 12 by omega) (by rw [sgn, if_neg h0, if_neg h3, if_pos h1]) rfl rfl S5 ?_
    intro r h7 tk7 S7
    exact k _ _ _ S7
  · refine ite_f (decide_eq_false h1) ?_
    refine wpAny_execs_cons ?_
    refine wpAny_Assign_Name ?_
    refine wpAny_BinOp ?_
    refine ev_loc (x := "which") S2 (.head _) rfl ?_
    refine wpAny_Constant_int ?_
    refine modn (b := 26) (by decide) ?_
    refine st_loc (x := "letter") S2 .head fun h4 tk4 S4 => ?_
    refine wpAny_execs_cons ?_
    refine wpAny_Assign_Name ?_
    refine wpAny_BinOp ?_
    refine wpAny_BinOp ?_
    refine ev_loc (x := "which") S4 (.head _) rfl ?_
    refine wpAny_Constant_int ?_
    refine fdivn (b := 26) (by decide) (by decide) ?_
    refine wpAny_Constant_int ?_
    refine modn (b := 12) (by decide) ?_
    refine st_loc (x := "form") S4 .head fun h5' tk5 S5 => ?_
    refine wpAny_execs_nil ?_
    refine @sign_fin w _ _ _ h₀ H pm L n _ _ _ _ _ _ B hh (show (n / 4 % 26).toNat < 26 by omega) (show (n / 4 / 26 % 12).toNat < 12 by omega) (by rw [sgn, if_neg h0, if_neg h3, if_neg h1]) rfl rfl S5 ?_
    intro r h7 tk7 S7
    exact k _ _ _ S7
end
end Mine
end
/-! text F1 -/
section
open PySem PySem.W PyProof.Rows PySem.Spec PySem.Calls PySem.SeqAt
set_option maxRecDepth 100000
set_option linter.unusedVariables false
set_option maxHeartbeats 1000000
namespace Mine
noncomputable def allSigns : List (Nat × Str) :=
  ((List.range 7).map fun k => (64256 + k, ligs.getD k Str.empty)) ++ ((List.range 27).map fun k => (heldL.getD k 0, Str.empty)) ++ ((List.range 16).map fun k => (besideL.getD k 0, ⟨#[besideL.getD k 0]⟩)) ++
  ((List.range 12).map fun f => (List.range 26).map fun l => (basesL.getD f 0 + l, (⟨#[97 + l]⟩ : Str))).flatten
theorem sgn_mem (n : Int) : sgn n ∈ allSigns := by
  have five : ∀ k < 5, [5, 8, 11, 18, 19].getD k 0 < 26 := by decide
  unfold sgn allSigns
  simp only [List.mem_append, List.mem_map, List.mem_range, List.mem_flatten]
  split
  · exact .inl (.inl (.inl ⟨_, by omega, rfl⟩))
  · split
    · split
      · rename_i h; exact .inl (.inl (.inr ⟨_, h, rfl⟩))
      · exact .inl (.inr ⟨(n / 4 % 43).toNat - 27, by omega, rfl⟩)
    · split
      · exact .inr ⟨_, ⟨(n / 4 / 5 % 12).toNat, by omega, rfl⟩, List.mem_map.mpr ⟨_, List.mem_range.mpr (five (n / 4 % 5).toNat (by omega)), rfl⟩⟩
      · exact .inr ⟨_, ⟨(n / 4 / 26 % 12).toNat, by omega, rfl⟩, List.mem_map.mpr ⟨_, List.mem_range.mpr (show (n / 4 % 26).toNat < 26 by omega), rfl⟩⟩
noncomputable def goodS (p : Nat × Str) : Bool :=
  (nb1 p.1 == (p.2.cps.toList != [])) && (if nb1 p.1 then (b3map p.1).cps.toList == p.2.cps.toList else true) && (PySem.Builtin.Str.tooLong (Txt.lower ⟨#[p.1]⟩).length == false) && decide (p.2.cps.size ≤ 3) && decide (p.1 ≤ 0x10FFFF)
theorem good_ligs : ((List.range 7).map fun k => (64256 + k, ligs.getD k Str.empty)).all goodS = true := by decide +kernel
theorem good_held : ((List.range 27).map fun k => (heldL.getD k 0, Str.empty)).all goodS = true := by decide +kernel
theorem good_beside : ((List.range 16).map fun k => (besideL.getD k 0, (⟨#[besideL.getD k 0]⟩ : Str))).all goodS = true := by decide +kernel
noncomputable def alphaS (f : Nat) : List (Nat × Str) := (List.range 26).map fun l => (basesL.getD f 0 + l, (⟨#[97 + l]⟩ : Str))
theorem good_0 : (alphaS 0).all goodS = true := by decide +kernel
theorem good_1 : (alphaS 1).all goodS = true := by decide +kernel
theorem good_2 : (alphaS 2).all goodS = true := by decide +kernel
theorem good_3 : (alphaS 3).all goodS = true := by decide +kernel
theorem good_4 : (alphaS 4).all goodS = true := by decide +kernel
theorem good_5 : (alphaS 5).all goodS = true := by decide +kernel
theorem good_6 : (alphaS 6).all goodS = true := by decide +kernel
theorem good_7 : (alphaS 7).all goodS = true := by decide +kernel
theorem good_8 : (alphaS 8).all goodS = true := by decide +kernel
theorem good_9 : (alphaS 9).all goodS = true := by decide +kernel
theorem good_10 : (alphaS 10).all goodS = true := by decide +kernel
theorem good_11 : (alphaS 11).all goodS = true := by decide +kernel
theorem good_alphas : ((List.range 12).map alphaS).flatten.all goodS = true := by
  show (alphaS 0 ++ (alphaS 1 ++ (alphaS 2 ++ (alphaS 3 ++ (alphaS 4 ++ (alphaS 5 ++ (alphaS 6 ++ (alphaS 7 ++ (alphaS 8 ++ (alphaS 9 ++ (alphaS 10 ++ (alphaS 11 ++ [])))))))))))).all goodS = true
  simp only [List.all_append, good_0, good_1, good_2, good_3, good_4, good_5, good_6, good_7, good_8, good_9, good_10, good_11, List.all_nil, Bool.and_self]
theorem all_good : allSigns.all goodS = true := by
  show (((List.range 7).map fun k => (64256 + k, ligs.getD k Str.empty)) ++ ((List.range 27).map fun k => (heldL.getD k 0, Str.empty)) ++ ((List.range 16).map fun k => (besideL.getD k 0, (⟨#[besideL.getD k 0]⟩ : Str))) ++ ((List.range 12).map alphaS).flatten).all goodS = true
  rw [List.all_append, List.all_append, List.all_append, good_ligs, good_held, good_beside, good_alphas]
  rfl
end Mine
end
/-! text B11 -/
section
open PySem PySem.W PyProof.Rows PySem.Spec PySem.Calls PySem.SeqAt
set_option maxRecDepth 100000
set_option linter.unusedVariables false
set_option maxHeartbeats 1000000
namespace Mine
theorem ints_drop : ∀ (k : Nat) {vs : List Value} {xs : List Int}, IntsAre vs xs → IntsAre (vs.drop k) (xs.drop k)
  | 0, _, _, h => h
  | k + 1, _, _, .nil => by simpa using IntsAre.nil
  | k + 1, _, _, .cons n t h => by simpa using ints_drop k h
theorem ints_take : ∀ (k : Nat) {vs : List Value} {xs : List Int}, IntsAre vs xs → IntsAre (vs.take k) (xs.take k)
  | 0, _, _, h => by simpa using IntsAre.nil
  | k + 1, _, _, .nil => by simpa using IntsAre.nil
  | k + 1, _, _, .cons n t h => by simpa using IntsAre.cons n t (ints_take k h)
section
variable {w : World} {A : Around} {E : Value → Shared → Prop} {s : Shared} {t u : Tok} {h₀ : Gd} {H : Led} {env : Env}
theorem slice_any {value : PySem.Expr} {lower upper : Option PySem.Expr} {p pos : Pos} {T id : String} {Q : Value → Shared → Prop}
    (hl : typeLookup (.type T) "__getitem__" = pure (some (.builtin id)))
    (h : wpAny (model pw w) A (eval value env) (fun o s₁ => wpAny (model pw w) A (eval (.Slice lower upper none p) env) (fun i s₂ => s₂.TypeIs o T ∧ wpAny (model pw w) A (getItem o i) Q E s₂) E s₁) E s) :
    wpAny (model pw w) A (eval (.Subscript value (.Slice lower upper none p) pos) env) Q E s := by
  rw [eval_Subscript]
  refine wpAny_bind (wpAny_mono h (fun o s₁ h₁ => wpAny_bind (wpAny_holding (wpAny_mono h₁ (fun i s₂ h₂ => wpAny_bind (wpAny_standAt ?_)) fun _ _ x => x)))
    fun _ _ x => x)
  have fin : wpAny (model pw w) A (operate [i, o] (getItem o i)) (fun r s₃ => wpAny (model pw w) A (letTemporaryGo value o r >>= fun _ => pure r) Q E s₃) E s₂ :=
    wpAny_operating (wpAny_mono h₂.2 (fun r s₃ h₃ => wpAny_bind (wpAny_letTemporaryGo (wpAny_pure h₃))) fun _ _ x => x)
  first
    | (refine wpAny_bind ?_
       rw [getitemInPython_of_ne h₂.1.not_modules]
       refine wpAny_bind (wpAny_specialOf h₂.1 hl ?_)
       first
         | exact wpAny_pure (wpAny_bind fin)
         | exact wpAny_bind (wpAny_pure (wpAny_bind fin))
         | exact wpAny_bind fin)
    | (refine wpAny_bind (wpAny_specialOf h₂.1 hl ?_)
       first
         | exact wpAny_bind (wpAny_pure (wpAny_bind fin))
         | exact wpAny_bind fin)
theorem list_slice_any {value : PySem.Expr} {lower upper : Option PySem.Expr} {p pos : Pos} {Q : Value → Shared → Prop}
    (h : wpAny (model pw w) A (eval value env) (fun o s₁ => wpAny (model pw w) A (evalPart lower env) (fun vl s₂ => wpAny (model pw w) A (evalPart upper env) (fun vu s₃ =>
      ∃ l items lo hi, o = .ref l ∧ s₃.heap.IsList l items ∧ items.size ≤ sizeLine ∧ IsPart vl lo ∧ IsPart vu hi ∧
        Q (.ref (s₃.heap.objs.size + 1)) { s₃ with heap := (s₃.heap.push { cls := .type "slice", data := .fields #[vl, vu, .none] }).push { cls := .type "list", data := .seq (slicePick items lo hi none) } }) E s₂) E s₁) E s) :
    wpAny (model pw w) A (eval (.Subscript value (.Slice lower upper none p) pos) env) Q E s := by
  refine slice_any (T := "list") list_getitem_lookup (wpAny_mono h (fun o s₁ h₁ => wpAny_Slice (wpAny_mono h₁ (fun vl s₂ h₂ => wpAny_mono h₂ (fun vu s₃ h₃ => ?_) fun _ _ e => e) fun _ _ e => e)) fun _ _ e => e)
  obtain ⟨l, items, lo, hi, rfl, hl, hsz, pl, pu, hQ⟩ := h₃
  rw [evalPart_none]
  refine wpAny_pure ⟨(hl.push _).typeIs, wpAny_getItem_list_slice (hl.push _) (Heap.IsSliceOf.new ..) pl pu .none (by simp) ?_ hsz⟩
  rw [Heap.size_push]
  exact hQ
/-- l[k:] -/
theorem from_ints {value e : PySem.Expr} {p pos : Pos} {Q : Value → Shared → Prop}
    (h : wpAny (model pw w) A (eval value env) (fun o s₁ => wpAny (model pw w) A (eval e env) (fun vl s₂ => ∃ (h₀ : Gd) (H : Led) (l : Addr) (xs : List Int) (k : Nat) (t : Tok), o = .ref l ∧ vl = .int k t ∧ St h₀ s₂.heap H ∧ (l, intsP xs) ∈ H ∧ xs.length ≤ 1000 ∧
      ∀ r h', St h₀ h' ((r, intsP (xs.drop k)) :: H) → Q (.ref r) { s₂ with heap := h' }) E s₁) E s) : wpAny (model pw w) A (eval (.Subscript value (.Slice (some e) none none p) pos) env) Q E s := by
  refine list_slice_any (wpAny_mono h (fun o s₁ h₁ => wpAny_mono h₁ (fun vl s₂ h₂ => ?_) fun _ _ e => e) fun _ _ e => e)
  obtain ⟨h₀, H, l, xs, k, t, rfl, rfl, S, hm, hlen, kk⟩ := h₂
  refine wpAny_evalPart_none ?_
  obtain ⟨vs, n, hi, hl⟩ := S.ints hm
  refine ⟨l, vs.toArray, some (k : Int), none, rfl, ⟨_, hl, rfl, n, rfl⟩, by rw [List.size_toArray, ints_len hi]; exact Nat.le_trans hlen (by decide), .int _ _, .none, ?_⟩
  rw [slicePick_from']
  have S1 := S.push { cls := .type "slice", data := .fields #[.int k t, .none, .none] } anyP trivial
  have S2 := (S1.push { cls := .type "list", data := .seq (vs.drop k).toArray } (intsP (xs.drop k)) (intsP_of (ints_drop k hi))).sub (.cons_cons _ (.cons _ (List.Sublist.refl _)))
  rw [Heap.size_push] at S2
  exact kk _ _ S2
/-- l[-1:] -/
theorem last_ints {value e : PySem.Expr} {p pos : Pos} {Q : Value → Shared → Prop}
    (h : wpAny (model pw w) A (eval value env) (fun o s₁ => wpAny (model pw w) A (eval e env) (fun vl s₂ => ∃ (h₀ : Gd) (H : Led) (l : Addr) (xs : List Int) (t : Tok), o = .ref l ∧ vl = .int (-1) t ∧ St h₀ s₂.heap H ∧ (l, intsP xs) ∈ H ∧ xs.length ≤ 1000 ∧
      ∀ r h', St h₀ h' ((r, intsP (xs.drop (xs.length - 1))) :: H) → Q (.ref r) { s₂ with heap := h' }) E s₁) E s)
    (ht : ∀ o r, letTemporaryGo value o r = pure () := by intro _ _; rfl) : wpAny (model pw w) A (eval (.Subscript value (.Slice (some e) none none p) pos) env) Q E s := by
  refine wpAny_Subscript_list_slice (wpAny_mono h (fun o s₁ h₁ => wpAny_mono h₁ (fun vl s₂ h₂ => ?_) fun _ _ e => e) fun _ _ e => e) ht
  obtain ⟨h₀, H, l, xs, t, rfl, rfl, S, hm, hlen, kk⟩ := h₂
  refine wpAny_evalPart_none ?_
  obtain ⟨vs, n, hi, hl⟩ := S.ints hm
  refine ⟨l, vs.toArray, some (-1), none, rfl, ⟨_, hl, rfl, n, rfl⟩, by rw [List.size_toArray, ints_len hi]; exact Nat.le_trans hlen (by decide), .int _ _, .none, ?_⟩
  rw [show (some (-1) : Option Int) = some (-((1 : Nat) : Int)) from rfl, slicePick_last _ 1 (Nat.le_refl _), show vs.toArray.size = xs.length from (List.size_toArray ..).trans (ints_len hi)]
  have S1 := S.push { cls := .type "slice", data := .fields #[.int (-1) t, .none, .none] } anyP trivial
  have S2 := (S1.push { cls := .type "list", data := .seq (vs.drop (xs.length - 1)).toArray } (intsP (xs.drop (xs.length - 1))) (intsP_of (ints_drop _ hi))).sub (.cons_cons _ (.cons _ (List.Sublist.refl _)))
  rw [Heap.size_push] at S2
  exact kk _ _ S2
/-- l[a::2] of a list of eight -/
theorem halves {value e e2 : PySem.Expr} {p pos : Pos} {Q : Value → Shared → Prop}
    (h : wpAny (model pw w) A (eval value env) (fun o s₁ => wpAny (model pw w) A (eval e env) (fun vl s₂ => wpAny (model pw w) A (eval e2 env) (fun vs s₃ => ∃ (h₀ : Gd) (H : Led) (l : Addr) (xs ys : List Value) (k : Nat) (t t2 : Tok), o = .ref l ∧ vl = .int k t ∧ vs = .int 2 t2 ∧ St h₀ s₃.heap H ∧ (l, listP xs) ∈ H ∧ xs.length = 8 ∧
      slicePick xs.toArray (some (k : Int)) none (some 2) = ys.toArray ∧
      ∀ r h', St h₀ h' ((r, listP ys) :: H) → Q (.ref r) { s₃ with heap := h' }) E s₂) E s₁) E s)
    (ht : ∀ o r, letTemporaryGo value o r = pure () := by intro _ _; rfl) : wpAny (model pw w) A (eval (.Subscript value (.Slice (some e) none (some e2) p) pos) env) Q E s := by
  refine wpAny_Subscript_Slice_step (T := "list") list_getitem_lookup (wpAny_mono h (fun o s₁ h₁ => wpAny_Slice (wpAny_mono h₁ (fun vl s₂ h₂ => wpAny_evalPart_none (wpAny_mono h₂ (fun vs s₃ h₃ => ?_) fun _ _ e => e)) fun _ _ e => e)) fun _ _ e => e) ht
  obtain ⟨h₀, H, l, xs, ys, k, t, t2, rfl, rfl, rfl, S, hm, hlen, hy, kk⟩ := h₃
  have hl := (S.plist hm).isList
  refine ⟨(hl.push _).typeIs, wpAny_getItem_list_slice (hl.push _) (Heap.IsSliceOf.new ..) (.int _ _) .none (.int _ _) (by simp) ?_ (by rw [List.size_toArray, hlen]; decide)⟩
  rw [hy]
  have S1 := S.push { cls := .type "slice", data := .fields #[.int k t, .none, .int 2 t2] } anyP trivial
  have S2 := (S1.push { cls := .type "list", data := .seq ys.toArray } (listP ys) ⟨0, rfl⟩).sub (.cons_cons _ (.cons _ (List.Sublist.refl _)))
  exact kk _ _ S2
/-- list(l) -/
theorem copy_ints {l : Addr} {xs : List Int} {Q : Value → Shared → Prop} (S : St h₀ s.heap H) (hm : (l, intsP xs) ∈ H) (hlen : xs.length ≤ 1000)
    (k : ∀ r h', St h₀ h' ((r, intsP xs) :: H) → Q (.ref r) { s with heap := h' }) : wpAny (model pw w) A (call (.type "list") [.ref l]) Q E s := by
  obtain ⟨vs, n, hi, hl⟩ := S.ints hm
  refine call_list_seq l (.inl rfl) hl rfl rfl (fun h' c' hk hD => k _ _ (S.grow (new := [(s.heap.objs.size, intsP xs)]) hk (fun p hp => ?_) (List.pairwise_singleton ..))) (by rw [List.size_toArray, ints_len hi]; exact Nat.le_trans hlen (by decide))
  rw [List.mem_singleton.mp hp]
  exact ⟨Nat.le_refl _, _, hD, intsP_of hi⟩
/-- abs -/
theorem abs_int' {a : Int} {Q : Value → Shared → Prop} (k : ∀ t tk, Q (.int (a.natAbs : Nat) t) { s with toks := tk }) : wpAny (model pw w) A (call (.builtin "abs") [.int a t]) Q E s := by
  refine call_abs_int fun u tk => ?_
  have e : (if a < 0 then -a else a) = ((a.natAbs : Nat) : Int) := by split <;> omega
  rw [e]; exact k _ _
end
end Mine
end
/-! text B12 -/
section
open PySem PySem.W PyProof.Rows PySem.Spec PySem.Calls PySem.SeqAt
set_option maxRecDepth 100000
set_option linter.unusedVariables false
set_option maxHeartbeats 1000000
namespace Mine
theorem Up.app {a : Addr} {P P' : PO} {H H' : Led} (u : Up a P P' H H') : ∀ X : Led, Up a P P' (X ++ H) (X ++ H')
  | [] => u
  | x :: X => .tail (u.app X)
section
variable {w : World} {A : Around} {E : Value → Shared → Prop} {s : Shared} {t u : Tok} {h₀ : Gd} {H : Led} {env : Env}
/-- for target in iter: body, no break, no return -/
theorem forL {target iter : PySem.Expr} {body : List Stmt} {pos : Pos} {Q : Flow → Shared → Prop} (hh : A.handled = none)
    (h : wpAny (model pw w) A (eval iter env) (fun xv s₁ => wpAny (model pw w) A (pyIter xv) (fun it s₂ => ∃ (J : Nat → Gd → Led → Prop) (I : Addr) (ip : Nat → PO) (n : Nat) (P : Nat → Value → Prop) (L : Led) (g : Gd) (K : Led), it = .ref I ∧ Steps w I ip n P L ∧
      (∀ i g K, J i g K → ∀ p ∈ L, p ∈ K) ∧ St g s₂.heap ((I, ip 0) :: K) ∧ J 0 g K ∧
      (∀ (i : Nat) (v : Value) (g : Gd) (K : Led) (hp : Heap) (tk : Nat) (E' : Value → Shared → Prop) (Qn : Flow → Shared → Prop), i < n → P i v → J i g K → St g hp ((I, ip (i + 1)) :: K) →
        (∀ g' K' hp' tk', J (i + 1) g' K' → St g' hp' ((I, ip (i + 1)) :: K') → Qn .next { s₂ with heap := hp', toks := tk' }) →
        wpAny (model pw w) A (letOwnedTupleGo target (.ref I) v) (fun _ s₁' => wpAny (model pw w) A (assign target env v) (fun _ s₃ => wpAny (model pw w) A (execs body env) Qn E' s₃) E' s₁') E' { s₂ with heap := hp, toks := tk }) ∧
      (∀ g K hp tk, J n g K → St g hp K → Q .next { s₂ with heap := hp, toks := tk })) E s₁) E s)
    (hs : ∀ x, foldedSetIterable iter env x = pure x := by intro _; rfl) :
    wpAny (model pw w) A (exec (.For target iter body [] pos) env) Q E s := by
  refine wpAny_For (wpAny_mono h (fun xv s₁ h₁ => wpAny_mono h₁ (fun it s₂ h₂ => ?_) fun _ _ e => e) fun _ _ e => e) hs
  obtain ⟨J, I, ip, n, P, L, g, K, rfl, W, hL, S, h0, hturn, hQ⟩ := h₂
  refine codeAny_forLoop_any (fun k s' => ∃ (i : Nat) (g : Gd) (K : Led) (hp : Heap) (tk : Nat), k = n - i ∧ i ≤ n ∧ s' = { s₂ with heap := hp, toks := tk } ∧ St g hp ((I, ip i) :: K) ∧ J i g K) ?_ n ⟨0, g, K, _, _, rfl, Nat.zero_le _, rfl, S, h0⟩
  rintro k s' ⟨i, g, K, hp, tk, rfl, hi, rfl, S', hJ⟩
  by_cases hlt : i < n
  · refine W.item i hlt S' (hL _ _ _ hJ) fun v hp2 tk2 hP S2 => ?_
    refine hturn i v g K hp2 tk2 _ _ hlt hP hJ S2 fun g' K' hp' tk' hJ' S3 => ?_
    exact ⟨n - (i + 1), by omega, i + 1, g', K', hp', tk', rfl, hlt, rfl, S3, hJ'⟩
  · have e : i = n := by omega
    subst e
    refine W.done hh S' (hL _ _ _ hJ) fun hp2 tk2 S2 => ?_
    exact wpAny_execs_nil (hQ g K hp2 tk2 hJ S2)
theorem go_name {y : Str} {p : Pos} {it v : Value} {Q : Unit → Shared → Prop} (h : Q () s) : wpAny (model pw w) A (letOwnedTupleGo (.Name y p) it v) Q E s := wpAny_pure h
theorem go_list {elts : List PySem.Expr} {k : Nat} {p : Pos} {I l T : Addr} {i : Nat} {Q : Unit → Shared → Prop} (S : St h₀ s.heap H) (hm : (I, liP l i) ∈ H) (h : Q () s) : wpAny (model pw w) A (letOwnedTupleGo (.Tuple elts k p) (.ref I) (.ref T)) Q E s :=
  wpAny_letOwnedTupleGo_listiter (S.li hm) h
/-- the same for a list that another entry of the ledger tells -/
theorem unpack2' {x y : Str} {px py : Pos} {k1 : Nat} {pos : Pos} {r : Addr} {a b : Value} {Q : Unit → Shared → Prop} (S : St h₀ s.heap H) (hl : ∃ n, s.heap.get? r = some { cls := .type "list", data := .seq [a, b].toArray n }) (hh : A.handled = none)
    (k : ∀ h' tk, St h₀ h' H → wpAny (model pw w) A (storeName env x a) (fun _ s₁ => wpAny (model pw w) A (storeName env y b) Q E s₁) E { s with heap := h', toks := tk }) :
    wpAny (model pw w) A (assign (.Tuple [.Name x px, .Name y py] k1 pos) env (.ref r)) Q E s := by
  rw [arm_assign_Tuple]
  refine wpAny_bind (wpAny_standAt ?_)
  unfold unpack
  show wpAny _ _ (holding [.ref r] (unpackItems (.ref r) 2 none) >>= _) _ _ _
  refine wpAny_bind (wpAny_holding ?_)
  obtain ⟨n, e⟩ := hl
  have hl : s.heap.IsList r [a, b].toArray := ⟨_, e, rfl, n, rfl⟩
  unfold unpackItems
  refine wpAny_bind ?_
  unfold notIterableAtAll
  refine wpAny_bind (wpAny_specialOf hl.typeIs slot_list_iter.lookup ?_)
  refine wpAny_pure ?_
  simp only [Bool.false_eq_true, if_false]
  refine wpAny_bind (wpAny_holding (wpAny_pyIter_list hl ?_))
  have S1 := S.push { cls := .type "list_iterator", data := .fields #[.ref r, .int (0 : Nat) 0] } (liP r 0) ⟨rfl, rfl⟩
  have hl1 := hl.push { cls := .type "list_iterator", data := .fields #[.ref r, .int (0 : Nat) 0] }
  have hne : r ≠ s.heap.objs.size := Nat.ne_of_lt (Heap.lt_size e)
  generalize s.heap.objs.size = I at S1 hne ⊢
  refine wpAny_bind (wpAny_holding ?_)
  show wpAny _ _ (pyNext (.ref I) >>= _) _ _ _
  refine wpAny_bind (wpAny_pyNext_list_item (x := a) (S1.li (.head _)) hl1 rfl fun h2 hit hs => ?_)
  obtain ⟨o2, e2, r2⟩ := hit
  have S2 : St h₀ h2 ((I, liP r 1) :: H) := S1.up .head hs ⟨o2, e2, r2⟩
  have hl2 := hl1.extBut hs.extBut hne
  refine wpAny_bind (wpAny_holding ?_)
  show wpAny _ _ (pyNext (.ref I) >>= _) _ _ _
  refine wpAny_bind (wpAny_pyNext_list_item (x := b) (S2.li (.head _)) hl2 rfl fun h3 hit hs => ?_)
  obtain ⟨o3, e3, r3⟩ := hit
  have S3 : St h₀ h3 ((I, liP r 2) :: H) := S2.up .head hs ⟨o3, e3, r3⟩
  have hl3 := hl2.extBut hs.extBut hne
  refine wpAny_bind (wpAny_holding (wpAny_pure (wpAny_pure (wpAny_pure ?_))))
  rw [if_neg (show ¬ [a, b].length < 2 from Nat.lt_irrefl 2)]
  refine wpAny_bind (wpAny_holding (wpAny_pyNext_list_end hh (S3.li (.head _)) hl3 rfl fun h4 hs => ?_))
  simp only [Option.isSome_none, Bool.false_eq_true, if_false]
  refine wpAny_pure ?_
  show wpAny _ _ (assignInOrder [_, _] [a, b]) _ _ _
  refine assignInOrder_cons (wpAny_assign_Name ?_)
  refine wpAny_mono (k h4 _ (S3.dropE hs)) (fun _ s1 h => ?_) fun _ _ e => e
  refine assignInOrder_cons (wpAny_assign_Name (wpAny_mono h (fun _ s2 h2 => ?_) fun _ _ e => e))
  exact wpAny_pure h2
end
end Mine
end
/-! text D1 -/
section
open PySem PySem.W PyProof.Rows PySem.Spec PySem.Calls PySem.SeqAt
set_option maxRecDepth 100000
set_option linter.unusedVariables false
set_option maxHeartbeats 1000000
namespace Mine
noncomputable def B13 : List Stmt := fbody (pst 13)
structure FX where
  (pm cd doc dV kV : Value)
  fa : Addr
noncomputable def fdL (x : FX) : FuncData := { docDef "law" (fargs (pst 13)) (fbody (pst 13)) (fscope (pst 13)) x.pm x.cd x.doc with defaults := x.dV, kwdefaults := x.kV }
noncomputable abbrev eL (x : FX) (L : Addr) : Env := callEnvC (fdL x) L x.fa
/-- the law's cells -/
structure CV where
  (fr gr fs to pu le ta ro y se ty un : Option Value)
noncomputable abbrev core (L : Addr) (m : Str → Option Value) (c : CV) (K : Led) : Led :=
  (L, nsP m) :: (L + 12, cellP c.fr) :: (L + 11, cellP c.gr) :: (L + 10, cellP c.fs) :: (L + 9, cellP c.to) :: (L + 8, cellP c.pu) :: (L + 7, cellP c.le) :: (L + 6, cellP c.ta) :: (L + 5, cellP c.ro) :: (L + 4, cellP c.y) :: (L + 3, cellP c.se) :: (L + 2, cellP c.ty) :: (L + 1, cellP c.un) :: K
noncomputable def up (m : Str → Option Value) (x : Str) (v : Value) : Str → Option Value := fun y => if y = x then some v else m y
section
variable {w : World} {A : Around} {E : Value → Shared → Prop} {s : Shared} {t u : Tok} {h₀ : Gd} {H K : Led} {x : FX} {L : Addr} {m : Str → Option Value} {c : CV}
theorem toK {h : Heap} {e : Addr × PO} (S : St h₀ h (e :: core L m c K)) : St h₀ h (core L m c (e :: K)) :=
  S.perm (List.perm_middle (l₁ := [(L, nsP m), (L + 12, cellP c.fr), (L + 11, cellP c.gr), (L + 10, cellP c.fs), (L + 9, cellP c.to), (L + 8, cellP c.pu), (L + 7, cellP c.le), (L + 6, cellP c.ta), (L + 5, cellP c.ro), (L + 4, cellP c.y), (L + 3, cellP c.se), (L + 2, cellP c.ty), (L + 1, cellP c.un)]) (l₂ := K)).symm
theorem inK {p : Addr × PO} (h : p ∈ K) : p ∈ core L m c K :=
  .tail _ (.tail _ (.tail _ (.tail _ (.tail _ (.tail _ (.tail _ (.tail _ (.tail _ (.tail _ (.tail _ (.tail _ (.tail _ h))))))))))))
theorem sl {y : Str} {v : Value} {Q : Unit → Shared → Prop} (S : St h₀ s.heap (core L m c K)) (h : ∀ h' tk, St h₀ h' (core L (up m y v) c K) → Q () { s with heap := h', toks := tk })
    (hx : (eL x L).kindOf y = some .local := by rfl) : wpAny (model pw w) A (storeName (eL x L) y v) Q E s :=
  st_loc (env := eL x L) S .head h rfl hx
theorem s_un {v : Value} {Q : Unit → Shared → Prop} (S : St h₀ s.heap (core L m c K)) (h : ∀ h' tk, St h₀ h' (core L m { c with un := some v } K) → Q () { s with heap := h', toks := tk }) : wpAny (model pw w) A (storeName (eL x L) "unit" v) Q E s :=
  st_cel (env := eL x L) (c := L + 1) S rfl (.tail (.tail (.tail (.tail (.tail (.tail (.tail (.tail (.tail (.tail (.tail (.tail .head)))))))))))) h
theorem s_ty {v : Value} {Q : Unit → Shared → Prop} (S : St h₀ s.heap (core L m c K)) (h : ∀ h' tk, St h₀ h' (core L m { c with ty := some v } K) → Q () { s with heap := h', toks := tk }) : wpAny (model pw w) A (storeName (eL x L) "typed" v) Q E s :=
  st_cel (env := eL x L) (c := L + 2) S rfl (.tail (.tail (.tail (.tail (.tail (.tail (.tail (.tail (.tail (.tail (.tail .head))))))))))) h
theorem s_se {v : Value} {Q : Unit → Shared → Prop} (S : St h₀ s.heap (core L m c K)) (h : ∀ h' tk, St h₀ h' (core L m { c with se := some v } K) → Q () { s with heap := h', toks := tk }) : wpAny (model pw w) A (storeName (eL x L) "second" v) Q E s :=
  st_cel (env := eL x L) (c := L + 3) S rfl (.tail (.tail (.tail (.tail (.tail (.tail (.tail (.tail (.tail (.tail .head)))))))))) h
theorem s_y {v : Value} {Q : Unit → Shared → Prop} (S : St h₀ s.heap (core L m c K)) (h : ∀ h' tk, St h₀ h' (core L m { c with y := some v } K) → Q () { s with heap := h', toks := tk }) : wpAny (model pw w) A (storeName (eL x L) "y" v) Q E s :=
  st_cel (env := eL x L) (c := L + 4) S rfl (.tail (.tail (.tail (.tail (.tail (.tail (.tail (.tail (.tail .head))))))))) h
theorem s_ro {v : Value} {Q : Unit → Shared → Prop} (S : St h₀ s.heap (core L m c K)) (h : ∀ h' tk, St h₀ h' (core L m { c with ro := some v } K) → Q () { s with heap := h', toks := tk }) : wpAny (model pw w) A (storeName (eL x L) "row" v) Q E s :=
  st_cel (env := eL x L) (c := L + 5) S rfl (.tail (.tail (.tail (.tail (.tail (.tail (.tail (.tail .head)))))))) h
theorem s_ta {v : Value} {Q : Unit → Shared → Prop} (S : St h₀ s.heap (core L m c K)) (h : ∀ h' tk, St h₀ h' (core L m { c with ta := some v } K) → Q () { s with heap := h', toks := tk }) : wpAny (model pw w) A (storeName (eL x L) "table" v) Q E s :=
  st_cel (env := eL x L) (c := L + 6) S rfl (.tail (.tail (.tail (.tail (.tail (.tail (.tail .head))))))) h
theorem s_le {v : Value} {Q : Unit → Shared → Prop} (S : St h₀ s.heap (core L m c K)) (h : ∀ h' tk, St h₀ h' (core L m { c with le := some v } K) → Q () { s with heap := h', toks := tk }) : wpAny (model pw w) A (storeName (eL x L) "letter" v) Q E s :=
  st_cel (env := eL x L) (c := L + 7) S rfl (.tail (.tail (.tail (.tail (.tail (.tail .head)))))) h
theorem s_pu {v : Value} {Q : Unit → Shared → Prop} (S : St h₀ s.heap (core L m c K)) (h : ∀ h' tk, St h₀ h' (core L m { c with pu := some v } K) → Q () { s with heap := h', toks := tk }) : wpAny (model pw w) A (storeName (eL x L) "put" v) Q E s :=
  st_cel (env := eL x L) (c := L + 8) S rfl (.tail (.tail (.tail (.tail (.tail .head))))) h
theorem s_to {v : Value} {Q : Unit → Shared → Prop} (S : St h₀ s.heap (core L m c K)) (h : ∀ h' tk, St h₀ h' (core L m { c with to := some v } K) → Q () { s with heap := h', toks := tk }) : wpAny (model pw w) A (storeName (eL x L) "told" v) Q E s :=
  st_cel (env := eL x L) (c := L + 9) S rfl (.tail (.tail (.tail (.tail .head)))) h
theorem s_fs {v : Value} {Q : Unit → Shared → Prop} (S : St h₀ s.heap (core L m c K)) (h : ∀ h' tk, St h₀ h' (core L m { c with fs := some v } K) → Q () { s with heap := h', toks := tk }) : wpAny (model pw w) A (storeName (eL x L) "fresh" v) Q E s :=
  st_cel (env := eL x L) (c := L + 10) S rfl (.tail (.tail (.tail .head))) h
theorem s_gr {v : Value} {Q : Unit → Shared → Prop} (S : St h₀ s.heap (core L m c K)) (h : ∀ h' tk, St h₀ h' (core L m { c with gr := some v } K) → Q () { s with heap := h', toks := tk }) : wpAny (model pw w) A (storeName (eL x L) "grown" v) Q E s :=
  st_cel (env := eL x L) (c := L + 11) S rfl (.tail (.tail .head)) h
theorem s_fr {v : Value} {Q : Unit → Shared → Prop} (S : St h₀ s.heap (core L m c K)) (h : ∀ h' tk, St h₀ h' (core L m { c with fr := some v } K) → Q () { s with heap := h', toks := tk }) : wpAny (model pw w) A (storeName (eL x L) "fronts" v) Q E s :=
  st_cel (env := eL x L) (c := L + 12) S rfl (.tail .head) h
/-- the script: a list of the world's -/
noncomputable def ScriptAt (h₀ : Gd) (l : Addr) (ns : List Int) : Prop := ∃ o vs n, h₀.base.get? l = some o ∧ o.cls = .type "list" ∧ o.data = .seq vs.toArray n ∧ IntsAre vs ns
theorem ScriptAt.list {h₀ : Gd} {l : Addr} {ns : List Int} {h : Heap} {H : Led} (X : ScriptAt h₀ l ns) (S : St h₀ h H) : ∃ vs, IntsAre vs ns ∧ h.IsList l vs.toArray := by
  obtain ⟨o, vs, n, e, hc, hd, hi⟩ := X
  exact ⟨vs, hi, o, S.keep _ _ e, hc, n, hd⟩
noncomputable def widthOf (ns : List Int) : Nat := 1 + (ns.sum + 2).natAbs % 1400
noncomputable def more8 : List Int := [12, 8, 3, 25, 149, 35, 1, 0]
noncomputable def drawnOf (ns : List Int) : List Int := ns.take 8 ++ more8.drop ns.length

theorem law_0 {ls : Addr} {ns : List Int} {Q : Flow → Shared → Prop} (B : Bs w h₀) (hh : A.handled = none) (X : ScriptAt h₀ ls ns) (S : St h₀ s.heap (core L m c K)) (hm : m "script" = some (.ref ls))
    (k : ∀ t h' tk, St h₀ h' (core L (up m "width" (.int (widthOf ns : Nat) t)) c K) → wpAny (model pw w) A (execs (B13.drop 1) (eL x L)) Q E { s with heap := h', toks := tk }) :
    wpAny (model pw w) A (execs B13 (eL x L)) Q E s := by
  refine wpAny_execs_cons ?_
  refine wpAny_Assign_Name ?_
  refine wpAny_BinOp ?_
  refine wpAny_Constant_int ?_
  refine wpAny_BinOp ?_
  refine wpAny_Call_NameR ?_
  refine ev_blt B S (v := .builtin "abs") (by decide) (by decide +kernel) ?_
  refine cb1 ?_
  refine wpAny_BinOp ?_
  refine wpAny_Call_NameR ?_
  refine ev_blt B S (v := .builtin "sum") (by decide) (by decide +kernel) ?_
  refine cb1 ?_
  refine ev_loc (x := "script") S (.head _) hm ?_
  obtain ⟨vs, hi, hl⟩ := X.list S
  obtain ⟨ys, e⟩ := hi.allInts.items
  rw [e] at hl
  refine sum_intListG hh hl fun h' tk t' hk => ?_
  have e2 : preSum (numAt ys) ys.size = ns.sum := by
    rw [preSum_eq, List.take_of_length_le (by simp), ← nums_intItems, ← e, show vs.toArray.toList = vs from rfl, hi.numsOf]
  rw [e2]
  have S1 := S.keeps hk
  refine wpAny_Constant_int ?_
  refine add_to (ns.sum + 2) rfl ?_
  refine abs_int' fun t2 tk2 => ?_
  refine wpAny_Constant_int ?_
  refine modq (b := 1400) (q := (ns.sum + 2).natAbs % 1400) (by omega) (by decide) ?_
  refine addn (a := 1) ?_
  refine sl S1 fun h2 tk3 S2 => ?_
  exact k _ _ _ S2
theorem law_1 {wd : Nat} {tw : Tok} {Q : Flow → Shared → Prop} (S : St h₀ s.heap (core L m c K)) (hm : m "width" = some (.int wd tw)) (hw : wd ≤ 1400)
    (k : ∀ t h' tk, St h₀ h' (core L m { c with un := some (.int (2 ^ wd : Nat) t) } K) → wpAny (model pw w) A (execs (B13.drop 2) (eL x L)) Q E { s with heap := h', toks := tk }) :
    wpAny (model pw w) A (execs (B13.drop 1) (eL x L)) Q E s := by
  refine wpAny_execs_cons ?_
  refine wpAny_Assign_Name ?_
  refine wpAny_BinOp ?_
  refine wpAny_Constant_int ?_
  refine ev_loc (x := "width") S (.head _) hm ?_
  refine pow_int_small (by omega) (by omega) (by decide) ?_
  rw [Int.toNat_natCast, show ((2 : Int) ^ wd) = ((2 ^ wd : Nat) : Int) by rw [Int.natCast_pow]; rfl]
  refine s_un S fun h2 tk2 S2 => ?_
  exact k _ _ _ S2
theorem law_2 {ls : Addr} {ns : List Int} {Q : Flow → Shared → Prop} (B : Bs w h₀) (X : ScriptAt h₀ ls ns) (hn : ns.length ≤ 63) (S : St h₀ s.heap (core L m c K)) (hm : m "script" = some (.ref ls))
    (k : ∀ r h' tk, St h₀ h' (core L (up m "drawn" (.ref r)) c ((r, intsP (drawnOf ns)) :: K)) → wpAny (model pw w) A (execs (B13.drop 3) (eL x L)) Q E { s with heap := h', toks := tk }) :
    wpAny (model pw w) A (execs (B13.drop 2) (eL x L)) Q E s := by
  obtain ⟨vs, hi, hl⟩ := X.list S
  refine wpAny_execs_cons ?_
  refine wpAny_Assign_Name ?_
  refine wpAny_BinOp ?_
  refine wpAny_Call_NameR ?_
  refine ev_blt B S (v := .type "list") (by decide) (by decide +kernel) ?_
  refine ct1 ?_
  refine wpAny_Subscript_list_slice ?_
  refine ev_loc (x := "script") S (.head _) hm ?_
  refine wpAny_evalPart_none ?_
  refine wpAny_evalPart_some ?_
  refine wpAny_Constant_int ?_
  refine ⟨ls, vs.toArray, none, some ((8 : Nat) : Int), rfl, hl, by rw [List.size_toArray, ints_len hi]; exact Nat.le_trans hn (by decide), .none, .int _ _, ?_⟩
  rw [slicePick_upto']
  have S1 := S.push { cls := .type "slice", data := .fields #[.none, .int 8 s.toks, .none] } anyP trivial
  have S2 := (S1.push { cls := .type "list", data := .seq (vs.take 8).toArray } (intsP (ns.take 8)) (intsP_of (ints_take 8 hi))).sub (.cons_cons _ (.cons _ (List.Sublist.refl _)))
  rw [Heap.size_push] at S2
  refine copy_ints S2 (.head _) (by rw [List.length_take]; omega) fun r2 h2 S3 => ?_
  refine @from_ints w _ _ _ _ _ _ _ _ _ ?_
  refine lit_ints (h₀ := h₀) (H := ?HH) (xs := more8) ?s1 ?s2 ?s3 ?s4
  case s1 => exact S3
  case s2 => kernel_rfl
  case s3 => decide
  case s4 =>
  intro r3 h3 tk3 S4
  obtain ⟨vs', hi', hl'⟩ := X.list S4
  refine wpAny_Call_NameR ?_
  refine ev_blt B S4 (v := .builtin "len") (by decide) (by decide +kernel) ?_
  refine cb1 ?_
  refine ev_loc (x := "script") S4 (.tail _ (.tail _ (.tail _ (.head _)))) hm ?_
  refine call_len_list hl' (by rw [List.size_toArray, ints_len hi']; omega) ?_
  rw [show vs'.toArray.size = ns.length from (List.size_toArray ..).trans (ints_len hi')]
  refine ⟨h₀, _, r3, more8, ns.length, _, rfl, rfl, S4, .head _, by decide, fun r4 h5 S5 => ?_⟩
  refine add_ints S5 (.tail _ (.tail _ (.head _))) (.head _) ?_ fun r5 h6 S6 => ?_
  · have : more8.length = 8 := rfl
    rw [List.length_take, List.length_drop]; omega
  have S7 := S6.sub (H' := (r5, intsP (drawnOf ns)) :: core L m c K) (.cons_cons _ (.cons _ (.cons _ (.cons _ (.cons _ (List.Sublist.refl _))))))
  refine sl (toK S7) fun h8 tk8 S8 => ?_
  exact k _ _ _ S8
end
end Mine
end
/-! text D2 -/
section
open PySem PySem.W PyProof.Rows PySem.Spec PySem.Calls PySem.SeqAt
set_option maxRecDepth 100000
set_option linter.unusedVariables false
set_option maxHeartbeats 1000000
namespace Mine
/-- the facts of a sign -/
structure SignOk (p : Nat × Str) : Prop where
  b1 : decide ((p.1 : Int) ∈ b1list) = (p.2.cps.toList == [])
  b3 : ¬ (p.1 : Int) ∈ b1list → (b3map p.1).cps.toList = p.2.cps.toList
  low : PySem.Builtin.Str.tooLong (Txt.lower ⟨#[p.1]⟩).length = false
  len : p.2.cps.size ≤ 3
  top : p.1 ≤ 0x10FFFF
theorem sgn_ok (n : Int) : SignOk (sgn n) := by
  have h := List.all_eq_true.mp all_good _ (sgn_mem n)
  simp only [goodS, Bool.and_eq_true, beq_iff_eq, decide_eq_true_eq] at h
  obtain ⟨⟨⟨⟨h1, h2⟩, h3⟩, h4⟩, h5⟩ := h
  refine ⟨?_, fun hb => ?_, h3, h4, h5⟩
  · rw [nb1] at h1
    cases hc : decide (((sgn n).1 : Int) ∈ b1list) <;> cases hd : ((sgn n).2.cps.toList == []) <;> simp_all
  · rw [if_pos (by simp [nb1, hb])] at h2
    exact eq_of_beq h2
/-- the pieces' lists -/
structure Pcs (K : Led) (rs : List Addr) (ns : List Int) : Prop where
  len : rs.length = ns.length
  at_ : ∀ (j : Nat) (r : Addr) (n : Int), rs[j]? = some r → ns[j]? = some n → (r, pieceP (sgn n)) ∈ K
section
variable {w : World} {A : Around} {E : Value → Shared → Prop} {s : Shared} {t u : Tok} {h₀ : Gd} {H K : Led} {x : FX} {L : Addr} {m : Str → Option Value} {c : CV}
theorem moveK {h : Heap} (X : Led) (S : St h₀ h (X ++ core L m c K)) : St h₀ h (core L m c (X ++ K)) :=
  S.perm (List.perm_append_comm_assoc X [(L, nsP m), (L + 12, cellP c.fr), (L + 11, cellP c.gr), (L + 10, cellP c.fs), (L + 9, cellP c.to), (L + 8, cellP c.pu), (L + 7, cellP c.le), (L + 6, cellP c.ta), (L + 5, cellP c.ro), (L + 4, cellP c.y), (L + 3, cellP c.se), (L + 2, cellP c.ty), (L + 1, cellP c.un)] K)
theorem law_3 {rd : Addr} {ds : List Int} {Q : Flow → Shared → Prop} (B : Bs w h₀) (hh : A.handled = none) (hA : A.depth < 700) (S : St h₀ s.heap (core L m c ((rd, intsP ds) :: K))) (hm : m "drawn" = some (.ref rd)) (hd : ds.length ≤ 100)
    (k : ∀ rp rs X h' tk, Pcs X rs ds → St h₀ h' (core L (up m "pieces" (.ref rp)) c ((rp, listP (rs.map .ref)) :: X ++ K)) → wpAny (model pw w) A (execs (B13.drop 4) (eL x L)) Q E { s with heap := h', toks := tk }) :
    wpAny (model pw w) A (execs (B13.drop 3) (eL x L)) Q E s := by
  refine wpAny_execs_cons ?_
  refine lcA (cl := []) (by rfl) (by rfl) hh ?_
  refine ev_loc (x := "drawn") S (.head _) hm ?_
  obtain ⟨o, e2, vs2, hv2, n2, ho⟩ := S.led (rd, intsP ds) (inK (.head _))
  have S : St h₀ s.heap (core L m c ((rd, listP vs2) :: K)) := by
    have S1 := S.perm (List.perm_middle (l₁ := [(L, nsP m), (L + 12, cellP c.fr), (L + 11, cellP c.gr), (L + 10, cellP c.fs), (L + 9, cellP c.to), (L + 8, cellP c.pu), (L + 7, cellP c.le), (L + 6, cellP c.ta), (L + 5, cellP c.ro), (L + 4, cellP c.y), (L + 3, cellP c.se), (L + 2, cellP c.ty), (L + 1, cellP c.un)]) (l₂ := K))
    exact toK (S1.at ⟨o, e2, n2, ho⟩)
  have hl2 : vs2.length = ds.length := ints_len hv2
  refine iter_list S (inK (.head _)) fun I h5 W S5 => ?_
  refine ⟨fun i vs K' => ∃ rs X, rs.length = i ∧ vs = rs.map .ref ∧ K' = X ++ core L m c ((rd, listP vs2) :: K) ∧ Pcs X rs (ds.take i), I, _, _, _, _, _, _, rfl, W, by rw [hl2]; exact Nat.le_trans hd (by decide), ?_, S5, ⟨[], [], rfl, rfl, rfl, ⟨by simp, fun j r n h => by simp at h⟩⟩, ?_, ?_⟩
  · rintro i vs K' ⟨rs, X, -, -, rfl, -⟩ p hp
    rw [List.mem_singleton.mp hp]
    exact List.mem_append_right _ (inK (.head _))
  · rintro i v C D mC K' vs hp tk' E' Qt Qf hi hv ⟨rs, X, hrs, rfl, rfl, hP⟩ hmn hvl S6 kt kf
    rw [hl2] at hi
    obtain ⟨tv, ev⟩ := ints_get hv2 i ds[i] (List.getElem?_eq_getElem hi)
    have ev : v = .int ds[i] tv := Option.some.inj (hv.symm.trans ev)
    subst ev
    refine no_tests ?_
    refine ite_t rfl ?_
    refine wpAny_Call_NameR ?_
    refine ev_glo (v := .ref 106) B S6 (by decide) ?_
    refine cf1 (Bs.fn B.f106) ?_
    refine ev_loc (x := "n") S6 (.head _) hmn ?_
    refine ⟨S6.keep, ?_⟩
    refine c_sign B S6 (by omega) hh fun r h7 tk7 S7 => ?_
    have S8 := S7.perm (List.perm_middle (l₁ := [(C, nsP mC), (I, liP rd (i + 1)), (D, listP (rs.map .ref))]) (l₂ := X ++ core L m c ((rd, listP vs2) :: K))).symm
    refine kt _ _ _ _ ⟨rs ++ [r], (r, pieceP (sgn ds[i])) :: X, by rw [List.length_append, hrs]; rfl, by rw [List.map_append]; rfl, rfl, ?_⟩ S8
    have htk : ds.take (i + 1) = ds.take i ++ [ds[i]] := by rw [List.take_add_one, List.getElem?_eq_getElem hi]; rfl
    rw [htk]
    have hlt : (ds.take i).length = i := by rw [List.length_take]; omega
    refine ⟨by rw [List.length_append, List.length_append, hrs, hlt]; rfl, fun j r' n' h1 h2 => ?_⟩
    by_cases hj : j < i
    · rw [List.getElem?_append_left (by omega)] at h1 h2
      exact .tail _ (hP.at_ j r' n' h1 h2)
    · have hj2 : j = i := by
        have : j < (rs ++ [r]).length := (List.getElem?_eq_some_iff.mp h1).1
        rw [List.length_append, hrs, List.length_singleton] at this
        omega
      subst hj2
      rw [List.getElem?_append_right (by omega), hrs, Nat.sub_self] at h1
      rw [List.getElem?_append_right (by omega), hlt, Nat.sub_self] at h2
      cases h1; cases h2
      exact .head _
  · rintro vs K' ⟨rs, X, hrs, rfl, rfl, hP⟩
    rw [hl2, List.take_length] at hP
    refine ⟨m, fun D => X ++ core L (up m "pieces" (.ref D)) c ((rd, listP vs2) :: K), fun D => ⟨Up.app .head X, fun hp tk S6 => ?_⟩⟩
    have S7 := moveK ((D, listP (rs.map .ref)) :: X) S6
    refine k D rs X hp tk hP (S7.sub ?_)
    refine List.Sublist.append_left (l := [(L, _), (L + 12, _), (L + 11, _), (L + 10, _), (L + 9, _), (L + 8, _), (L + 7, _), (L + 6, _), (L + 5, _), (L + 4, _), (L + 3, _), (L + 2, _), (L + 1, _)]) ?_
    exact .cons_cons _ (List.Sublist.append_left (.cons _ (List.Sublist.refl _)) _)

theorem law_4 {rp : Addr} {rs : List Addr} {X : Led} {ds : List Int} {Q : Flow → Shared → Prop} (B : Bs w h₀) (hh : A.handled = none) (hA : A.depth < 700) (S : St h₀ s.heap (core L m c ((rp, listP (rs.map .ref)) :: X ++ K))) (hm : m "pieces" = some (.ref rp)) (hP : Pcs X rs ds)
    (k : ∀ m' h' tk, (∀ y : Str, y ≠ "sign" → y ≠ "meaning" → m' y = m y) → St h₀ h' (core L m' c ((rp, listP (rs.map .ref)) :: X ++ K)) → wpAny (model pw w) A (execs (B13.drop 5) (eL x L)) Q E { s with heap := h', toks := tk }) :
    wpAny (model pw w) A (execs (B13.drop 4) (eL x L)) Q E s := by
  refine wpAny_execs_cons ?_
  refine forL hh ?_
  refine ev_loc (x := "pieces") S (.head _) hm ?_
  refine iter_list S (inK (.head _)) fun I h5 W S5 => ?_
  refine ⟨fun i g K' => g = h₀ ∧ ∃ m', (∀ y : Str, y ≠ "sign" → y ≠ "meaning" → m' y = m y) ∧ K' = core L m' c ((rp, listP (rs.map .ref)) :: X ++ K), I, _, _, _, _, _, _, rfl, W, ?_, S5, ⟨rfl, m, fun _ _ _ => rfl, rfl⟩, ?_, ?_⟩
  · rintro i g K' ⟨-, m', -, rfl⟩ p hp
    rw [List.mem_singleton.mp hp]
    exact inK (.head _)
  · rintro i v g K' hp tk E' Qn hi hv ⟨rfl, m', hm', rfl⟩ S6 kn
    rw [List.length_map] at hi
    have hv : v = .ref rs[i] := by
      have : (rs.map Value.ref)[i]? = some (.ref rs[i]) := by rw [List.getElem?_map, List.getElem?_eq_getElem hi]; rfl
      exact Option.some.inj (hv.symm.trans this)
    subst hv
    have hi2 : i < ds.length := hP.len ▸ hi
    have hpc := hP.at_ i rs[i] ds[i] (List.getElem?_eq_getElem hi) (List.getElem?_eq_getElem hi2)
    refine go_list S6 (.head _) ?_
    have hpm : (rs[i], pieceP (sgn ds[i])) ∈ ((I, liP rp (i + 1)) :: core L m' c ((rp, listP (rs.map .ref)) :: X ++ K) : Led) := .tail _ (inK (.tail _ (List.mem_append_left _ hpc)))
    obtain ⟨o, eo, t1, t2, hlo⟩ := S6.led _ hpm
    have hl : ∃ n, hp.get? rs[i] = some { cls := .type "list", data := .seq [.str ⟨#[(sgn ds[i]).1]⟩ t1, .str (sgn ds[i]).2 t2].toArray n } := by
      obtain ⟨n, e⟩ := hlo
      exact ⟨n, e ▸ eo⟩
    refine unpack2' S6 hl hh fun h7 tk7 S7 => ?_
    have F := sgn_ok ds[i]
    generalize sgn ds[i] = sg at F ⊢
    refine st_loc (env := eL x L) (x := "sign") S7 (.tail .head) (fun h8 tk8 S8 => ?_)
    refine st_loc (env := eL x L) (x := "meaning") S8 (.tail .head) (fun h9 tk9 S9 => ?_)
    refine wpAny_execs_cons ?_
    refine wpAny_If ?_
    refine wpAny_isTrue_Compare1 ?_ rfl
    refine wpAny_Call_NameR ?_
    refine ev_glo (v := .ref 55) B S9 (by decide) ?_
    refine cf1 (Bs.fn B.f55) ?_
    refine ev_loc (x := "sign") S9 (.tail _ (.head _)) rfl ?_
    refine ⟨S9.keep, ?_⟩
    refine c_in_b1 B S9 (by omega) fun h10 tk10 S10 => ?_
    refine wpAny_Compare1 ?_ rfl
    refine ev_loc (x := "meaning") S10 (.tail _ (.head _)) rfl ?_
    refine Constant_str ?_
    refine eq_str ?_
    refine wpAny_isNot_plain rfl ?_
    refine wpAny_truthy_bool ?_
    refine ite_f ?_ ?_
    · rw [F.b1, ← str_beq]
      show (!(Value.bool (sg.2.cps.toList == []) == Value.bool (sg.2.cps.toList == []))) = false
      cases (sg.2.cps.toList == []) <;> rfl
    refine wpAny_execs_nil ?_
    refine wpAny_execs_nil ?_
    refine kn _ _ _ _ ⟨rfl, _, fun y h1 h2 => ?_, rfl⟩ S10
    exact (if_neg h2).trans ((if_neg h1).trans (hm' y h1 h2))
  · rintro g K' hp tk ⟨rfl, m', hm', rfl⟩ S6
    exact k m' hp tk hm' S6
end
end Mine
end
/-! text D3 -/
section
open PySem PySem.W PyProof.Rows PySem.Spec PySem.Calls PySem.SeqAt
set_option maxRecDepth 100000
set_option linter.unusedVariables false
set_option maxHeartbeats 1000000
namespace Mine
section
variable {w : World} {A : Around} {E : Value → Shared → Prop} {s : Shared} {t u : Tok} {h₀ : Gd} {H K : Led} {env : Env} {x : FX} {L : Addr} {m : Str → Option Value} {c : CV}
theorem St.piece {h : Heap} {a : Addr} {p : Nat × Str} (S : St h₀ h H) (hm : (a, pieceP p) ∈ H) : ∃ t1 t2, h.IsList a [.str ⟨#[p.1]⟩ t1, .str p.2 t2].toArray := by
  obtain ⟨o, e, t1, t2, n, e2⟩ := S.led _ hm
  exact ⟨t1, t2, o, e, by rw [e2], n, by rw [e2]⟩
theorem odds (v0 v1 v2 v3 v4 v5 v6 v7 : Value) : slicePick [v0, v1, v2, v3, v4, v5, v6, v7].toArray (some ((1 : Nat) : Int)) none (some 2) = [v1, v3, v5, v7].toArray := by
  have e : sliceRange 1 8 2 = [1, 3, 5, 7] := by decide
  show ((sliceRange 1 8 2).filterMap _).toArray = _
  rw [e]; rfl
theorem evens (v0 v1 v2 v3 v4 v5 v6 v7 : Value) : slicePick [v0, v1, v2, v3, v4, v5, v6, v7].toArray (some ((0 : Nat) : Int)) none (some 2) = [v0, v2, v4, v6].toArray := by
  have e : sliceRange 0 8 2 = [0, 2, 4, 6] := by decide
  show ((sliceRange 0 8 2).filterMap _).toArray = _
  rw [e]; rfl
/-- ''.join([piece[ix] for piece in ITER]) -/
theorem joinP {it : PySem.Expr} {ix : Int} {k0 k1 : Nat} {p0 p1 p2 p3 p4 p5 p6 ap : Pos} {scope : Scope} {Q : Value → Shared → Prop} (hh : A.handled = none)
    (sel : Nat × Str → Str) (hsel : (ix = 0 ∧ sel = fun p => ⟨#[p.1]⟩) ∨ (ix = 1 ∧ sel = fun p => p.2))
    (h : wpAny (model pw w) A (eval it env) (fun v s₁ => ∃ (h₀ : Gd) (H : Led) (l : Addr) (as : List Addr) (ps : List (Nat × Str)), v = .ref l ∧ St h₀ s₁.heap H ∧ (l, listP (as.map .ref)) ∈ H ∧ as.length = ps.length ∧ ps.length ≤ 100 ∧
      (∀ (j : Nat) (a : Addr), as[j]? = some a → ∃ p, ps[j]? = some p ∧ (a, pieceP p) ∈ H) ∧ ((ps.map sel).map (·.length)).sum ≤ 16777216 ∧
      (∀ t h' tk, St h₀ h' H → Q (.str (Txt.join Str.empty (ps.map sel)) t) { s₁ with heap := h', toks := tk })) E { s with toks := s.toks + 1 })
    (hclos : closureFor scope env = pure []) (hcell : ∀ y ∈ scope.names, y.2 ≠ .cell) (hkind : scope.kind = .function)
    (hnames : ∀ y ∈ scope.names, y.2 = .local → scope.names.lookup y.1 = some .local) (hx : scope.names.lookup ("piece" : Str) = some NameKind.local) (hline : (ap.endLine == p6.line) = true) (hs : ∀ x, foldedSetIterable it env x = pure x) :
    wpAny (model pw w) A (eval (.Call (.Attribute (.Constant (.str "") k0 p0) "join" ap) [.ListComp (.Subscript (.Name "piece" p1) (.Constant (.int ix) k1 p2) p3) [⟨.Name "piece" p4, it, [], 0⟩] scope p5] [] p6) env) Q E s := by
  refine wpAny_Call_method (T := "str") (id := "str.join") rfl rfl hline F.plainAttrs_str F.slot_str_join F.type_str_join ?_
  refine Constant_str ?_
  refine ⟨typeIs_str _ _ _, (fun _ e => nomatch e), ?_⟩
  refine cbm1 ?_
  refine lc (cl := []) hclos hh ?_ hcell hkind hnames hx hs
  refine wpAny_mono h (fun v s₁ h₁ => ?_) fun _ _ e => e
  obtain ⟨h₀, H, l, as, ps, rfl, S, hm, hlen, hl100, hp, hsum, k⟩ := h₁
  refine iter_list S hm fun I h5 W S5 => ?_
  have hlm : (as.map Value.ref).length = ps.length := by rw [List.length_map, hlen]
  refine ⟨fun i vs K => K = H ∧ StrsAre vs ((ps.take i).map sel), I, _, _, _, _, _, _, rfl, W, by rw [hlm]; exact Nat.le_trans hl100 (by decide), ?_, S5, ⟨rfl, .nil⟩, ?_, ?_⟩
  · rintro i vs K ⟨rfl, -⟩ p hp
    rw [List.mem_singleton.mp hp]
    exact hm
  · rintro i v C D mC K vs hp' tk' E' Qt Qf hi hv ⟨rfl, hvs⟩ hmn hvl S6 kt kf
    rw [List.length_map] at hi
    have hv : v = .ref as[i] := by
      have : (as.map Value.ref)[i]? = some (.ref as[i]) := by rw [List.getElem?_map, List.getElem?_eq_getElem hi]; rfl
      exact Option.some.inj (hv.symm.trans this)
    subst hv
    obtain ⟨p, hpe, hpm⟩ := hp i as[i] (List.getElem?_eq_getElem hi)
    obtain ⟨t1, t2, hil⟩ := S6.piece (.tail _ (.tail _ (.tail _ hpm)))
    have htk : ps.take (i + 1) = ps.take i ++ [p] := by rw [List.take_add_one, hpe]; rfl
    refine no_tests ?_
    refine ite_t rfl ?_
    refine Subscript_ ?_
    refine ev_loc (x := "piece") S6 (.head _) hmn ?_ (by show (relabel scope env).kind = .function; simp [relabel, hkind]) (lookup_relabel_local hx)
    refine wpAny_Constant_int ?_
    rcases hsel with ⟨rfl, rfl⟩ | ⟨rfl, rfl⟩
    · refine tail_any hil.typeIs slot_list_getitem.lookup (wpAny_getItem_list hil (by decide) (by decide) (by rfl) ?_) (by with_unfolding_all rfl)
      refine kt _ _ _ _ ⟨rfl, ?_⟩ S6
      rw [htk, List.map_append]
      exact strs_snoc hvs _ _
    · refine tail_any hil.typeIs slot_list_getitem.lookup (wpAny_getItem_list hil (by decide) (by decide) (by rfl) ?_) (by with_unfolding_all rfl)
      refine kt _ _ _ _ ⟨rfl, ?_⟩ S6
      rw [htk, List.map_append]
      exact strs_snoc hvs _ _
  · rintro D vs K hp' tk' ⟨rfl, hvs⟩ S6
    rw [hlm, List.take_length] at hvs
    refine join0 S6 (.head _) hvs hsum fun t' k' => ?_
    exact k _ _ _ S6.drop
theorem law_5 {rp a0 a1 a2 a3 a4 a5 a6 a7 : Addr} {Q : Flow → Shared → Prop} (S : St h₀ s.heap (core L m c ((rp, listP ([a0, a1, a2, a3, a4, a5, a6, a7].map .ref)) :: K))) (hm : m "pieces" = some (.ref rp))
    (k : ∀ rt h' tk, St h₀ h' (core L m { c with ty := some (.ref rt) } ((rt, listP ([a1, a3, a5, a7].map .ref)) :: (rp, listP ([a0, a1, a2, a3, a4, a5, a6, a7].map .ref)) :: K)) → wpAny (model pw w) A (execs (B13.drop 6) (eL x L)) Q E { s with heap := h', toks := tk }) :
    wpAny (model pw w) A (execs (B13.drop 5) (eL x L)) Q E s := by
  refine wpAny_execs_cons ?_
  refine wpAny_Assign_Name ?_
  refine halves ?_
  refine ev_loc (x := "pieces") S (.head _) hm ?_
  refine wpAny_Constant_int ?_
  refine wpAny_Constant_int ?_
  refine ⟨h₀, _, rp, _, [a1, a3, a5, a7].map .ref, 1, _, _, rfl, rfl, rfl, S, inK (.head _), rfl, odds .., fun r h1 S1 => ?_⟩
  refine s_ty (toK S1) fun h2 tk2 S2 => ?_
  exact k _ _ _ S2
theorem law_6 {rt : Addr} {as : List Addr} {ps : List (Nat × Str)} {Q : Flow → Shared → Prop} (hh : A.handled = none) (S : St h₀ s.heap (core L m c ((rt, listP (as.map .ref)) :: K))) (hm : c.ty = some (.ref rt))
    (hlen : as.length = ps.length) (h100 : ps.length ≤ 100) (hp : ∀ (j : Nat) (a : Addr), as[j]? = some a → ∃ p, ps[j]? = some p ∧ (a, pieceP p) ∈ K)
    (k : ∀ t h' tk, St h₀ h' (core L m { c with se := some (.str (Txt.join Str.empty (ps.map fun p => ⟨#[p.1]⟩)) t) } ((rt, listP (as.map .ref)) :: K)) → wpAny (model pw w) A (execs (B13.drop 7) (eL x L)) Q E { s with heap := h', toks := tk }) :
    wpAny (model pw w) A (execs (B13.drop 6) (eL x L)) Q E s := by
  obtain ⟨cfr, cgr, cfs, cto, cpu, cle, cta, cro, cy, cse, cty, cun⟩ := c
  have hm : cty = some (.ref rt) := hm
  subst hm
  refine wpAny_execs_cons ?_
  refine wpAny_Assign_Name ?_
  refine joinP hh (fun p => ⟨#[p.1]⟩) (.inl ⟨rfl, rfl⟩) ?_ (by rfl) (by decide) (by rfl) (by decide) (by rfl) (by rfl) (by intro _; rfl)
  refine ev_cel (x := "typed") (c := L + 2) S (by walk_at "mem") rfl ?_
  refine ⟨h₀, _, rt, as, ps, rfl, S, inK (.head _), hlen, h100, fun j a h => ?_, ?_, fun t1 h1 tk1 S1 => ?_⟩
  · obtain ⟨p, h1, h2⟩ := hp j a h
    exact ⟨p, h1, inK (.tail _ h2)⟩
  · have e : ((ps.map fun p => (⟨#[p.1]⟩ : Str)).map (·.length)).sum = ps.length := by
      clear hlen h100 hp k
      induction ps with
      | nil => rfl
      | cons a l ih => simp only [List.map_cons, List.sum_cons, List.length_cons]; rw [ih]; show 1 + _ = _; omega
    rw [e]; omega
  refine s_se S1 fun h2 tk2 S2 => ?_
  exact k _ _ _ S2
end
end Mine
end
/-! text TX -/
section
open PySem PySem.W PyProof.Rows PySem.Spec PySem.Calls PySem.SeqAt
set_option maxRecDepth 100000
set_option linter.unusedVariables false
namespace Mine
noncomputable def ofL (cs : List Nat) : Str := ⟨cs.toArray⟩
theorem join_cat (ys : List Str) : Txt.join Str.empty ys = ofL (ys.map (·.cps.toList)).flatten := by
  have e : Txt.join Str.empty ys = Str.join Str.empty ys := eq_of_beq (join_plain_closes Str.empty ys)
  rw [e]
  clear e
  induction ys with
  | nil => rfl
  | cons a r ih =>
    have e2 : Str.join Str.empty (a :: r) = a ++ Str.join Str.empty r := PyProof.Rows.join_nil_cons a r
    rw [e2, ih, List.map_cons, List.flatten_cons]
    show (⟨a.cps ++ _⟩ : Str) = _
    unfold ofL
    congr 1
    apply Array.toList_inj.mp
    simp
theorem join_ones' (ps : List (Nat × Str)) : Txt.join Str.empty (ps.map fun p => (⟨#[p.1]⟩ : Str)) = ofL (ps.map (·.1)) := by
  rw [join_cat]
  congr 1
  induction ps with
  | nil => rfl
  | cons a r ih => simp only [List.map_cons, List.flatten_cons, ih]; rfl
/-- what the signs mean, one behind the other -/
noncomputable def means (ps : List (Nat × Str)) : List Nat := (ps.map (·.2.cps.toList)).flatten
theorem join_means (ps : List (Nat × Str)) : Txt.join Str.empty (ps.map fun p => p.2) = ofL (means ps) := by
  rw [join_cat, List.map_map]; rfl
theorem prep_means (ps : List (Nat × Str)) (h : ∀ p ∈ ps, SignOk p) : Txt.join Str.empty (prepL (ps.map (·.1))) = ofL (means ps) := by
  rw [join_cat]
  congr 1
  induction ps with
  | nil => rfl
  | cons a r ih =>
    have ih := ih fun p hp => h p (.tail _ hp)
    have F := h a (.head _)
    simp only [prepL, List.map_cons, means, List.flatten_cons] at *
    by_cases hb : (a.1 : Int) ∈ b1list
    · have e : nb1 a.1 = false := by simp [nb1, hb]
      rw [List.filter_cons_of_neg (by simp [e]), ih]
      have hb' := F.b1
      rw [decide_eq_true hb] at hb'
      rw [eq_of_beq hb'.symm, List.nil_append]
    · have e : nb1 a.1 = true := by simp [nb1, hb]
      rw [List.filter_cons_of_pos e, List.map_cons, List.map_cons, List.flatten_cons, ih, F.b3 hb]
theorem means_len (ps : List (Nat × Str)) (h : ∀ p ∈ ps, SignOk p) : (means ps).length ≤ 3 * ps.length := by
  induction ps with
  | nil => simp [means]
  | cons a r ih =>
    have ih := ih fun p hp => h p (.tail _ hp)
    have F := (h a (.head _)).len
    simp only [means, List.map_cons, List.flatten_cons, List.length_append, List.length_cons] at *
    have : a.2.cps.toList.length = a.2.cps.size := Array.length_toList
    omega
theorem prep_sum (ps : List (Nat × Str)) (h : ∀ p ∈ ps, SignOk p) : ((prepL (ps.map (·.1))).map (·.length)).sum ≤ 3 * ps.length := by
  induction ps with
  | nil => simp [prepL]
  | cons a r ih =>
    have ih := ih fun p hp => h p (.tail _ hp)
    have F := h a (.head _)
    simp only [prepL, List.map_cons, List.length_cons] at *
    by_cases hb : (a.1 : Int) ∈ b1list
    · have e : nb1 a.1 = false := by simp [nb1, hb]
      rw [List.filter_cons_of_neg (by simp [e])]
      omega
    · have e : nb1 a.1 = true := by simp [nb1, hb]
      rw [List.filter_cons_of_pos e, List.map_cons, List.map_cons, List.sum_cons]
      have e2 : (b3map a.1).length = a.2.cps.size := by
        have := congrArg List.length (F.b3 hb)
        simp only [Array.length_toList] at this
        exact this
      have := F.len
      omega
theorem sel_sum (ps : List (Nat × Str)) (h : ∀ p ∈ ps, SignOk p) : ((ps.map fun p => p.2).map (·.length)).sum ≤ 3 * ps.length := by
  induction ps with
  | nil => simp
  | cons a r ih =>
    have ih := ih fun p hp => h p (.tail _ hp)
    have F := (h a (.head _)).len
    simp only [List.map_cons, List.sum_cons, List.length_cons] at *
    have : a.2.length = a.2.cps.size := rfl
    omega
theorem one_sum (ps : List (Nat × Str)) : ((ps.map fun p => (⟨#[p.1]⟩ : Str)).map (·.length)).sum = ps.length := by
  induction ps with
  | nil => rfl
  | cons a l ih => simp only [List.map_cons, List.sum_cons, List.length_cons]; rw [ih]; show 1 + _ = _; omega
end Mine
end
/-! text D4 -/
section
open PySem PySem.W PyProof.Rows PySem.Spec PySem.Calls PySem.SeqAt
set_option maxRecDepth 100000
set_option linter.unusedVariables false
set_option maxHeartbeats 1000000
namespace Mine
section
variable {w : World} {A : Around} {E : Value → Shared → Prop} {s : Shared} {t u : Tok} {h₀ : Gd} {H K : Led} {env : Env} {x : FX} {L : Addr} {m : Str → Option Value} {c : CV}
theorem c_prep' {ps : List (Nat × Str)} {t : Tok} {Q : Value → Shared → Prop} (B : Bs w h₀) (S : St h₀ s.heap H) (hA : A.depth < 800) (hh : A.handled = none) (hlen : ps.length ≤ 20) (hok : ∀ p ∈ ps, SignOk p)
    (k : ∀ t h' tk, St h₀ h' H → Q (.str (ofL (means ps)) t) { s with heap := h', toks := tk }) :
    wpAny (model pw w) A (call (.ref 111) [.str (ofL (ps.map (·.1))) t] []) Q E s := by
  have e := prep_means ps hok
  have hs := prep_sum ps hok
  refine c_prep (cs := ps.map (·.1)) B S hA hh (by rw [List.length_map]; omega) (fun c hc => ?_) (by omega) fun t h' tk S' => ?_
  · obtain ⟨p, hp, rfl⟩ := List.mem_map.mp hc
    exact (hok p hp).low
  · rw [e]; exact k _ _ _ S'
theorem law_7 {rp a0 a1 a2 a3 a4 a5 a6 a7 : Addr} {p0 p2 p4 p6 : Nat × Str} {Q : Flow → Shared → Prop} (B : Bs w h₀) (hh : A.handled = none) (hA : A.depth < 700) (S : St h₀ s.heap (core L m c K)) (hm : m "pieces" = some (.ref rp)) (hr : (rp, listP ([a0, a1, a2, a3, a4, a5, a6, a7].map .ref)) ∈ K)
    (hp : ∀ (j : Nat) (a : Addr), [a0, a2, a4, a6][j]? = some a → ∃ p, [p0, p2, p4, p6][j]? = some p ∧ (a, pieceP p) ∈ K) (hok : ∀ p ∈ [p0, p2, p4, p6], SignOk p)
    (k : ∀ t h' tk, St h₀ h' (core L (up m "x" (.str (ofL (means [p0, p2, p4, p6])) t)) c K) → wpAny (model pw w) A (execs (B13.drop 8) (eL x L)) Q E { s with heap := h', toks := tk }) :
    wpAny (model pw w) A (execs (B13.drop 7) (eL x L)) Q E s := by
  refine wpAny_execs_cons ?_
  refine wpAny_Assign_Name ?_
  refine wpAny_Call_NameR ?_
  refine ev_glo (v := .ref 111) B S (by decide) ?_
  refine cf1 (Bs.fn B.f111) ?_
  refine joinP hh (fun p => ⟨#[p.1]⟩) (.inl ⟨rfl, rfl⟩) ?_ (by rfl) (by decide) (by rfl) (by decide) (by rfl) (by rfl) (by intro _; rfl)
  refine halves ?_
  refine ev_loc (x := "pieces") S (.head _) hm ?_
  refine wpAny_Constant_int ?_
  refine wpAny_Constant_int ?_
  refine ⟨h₀, _, rp, _, [a0, a2, a4, a6].map .ref, 0, _, _, rfl, rfl, rfl, S, inK hr, rfl, evens .., fun r h1 S1 => ?_⟩
  refine ⟨h₀, _, r, [a0, a2, a4, a6], [p0, p2, p4, p6], rfl, S1, .head _, rfl, (by decide : 4 ≤ 100), fun j a h => ?_, by rw [one_sum]; exact (by decide : 4 ≤ 16777216), fun t1 h1 tk1 S2 => ?_⟩
  · obtain ⟨p, h1, h2⟩ := hp j a h
    exact ⟨p, h1, .tail _ (inK h2)⟩
  rw [join_ones']
  refine ⟨S2.keep, ?_⟩
  refine c_prep' B S2 (by omega) hh (by decide : 4 ≤ 20) hok fun t3 h3 tk3 S3 => ?_
  refine sl S3.drop fun h4 tk4 S4 => ?_
  exact k _ _ _ S4
theorem law_8 {ps : List (Nat × Str)} {ts : Tok} {Q : Flow → Shared → Prop} (B : Bs w h₀) (hh : A.handled = none) (hA : A.depth < 700) (S : St h₀ s.heap (core L m c K)) (hm : c.se = some (.str (ofL (ps.map (·.1))) ts)) (hlen : ps.length ≤ 20) (hok : ∀ p ∈ ps, SignOk p)
    (k : ∀ t h' tk, St h₀ h' (core L m { c with y := some (.str (ofL (means ps)) t) } K) → wpAny (model pw w) A (execs (B13.drop 9) (eL x L)) Q E { s with heap := h', toks := tk }) :
    wpAny (model pw w) A (execs (B13.drop 8) (eL x L)) Q E s := by
  obtain ⟨cfr, cgr, cfs, cto, cpu, cle, cta, cro, cy, cse, cty, cun⟩ := c
  have hm : cse = _ := hm
  subst hm
  refine wpAny_execs_cons ?_
  refine wpAny_Assign_Name ?_
  refine wpAny_Call_NameR ?_
  refine ev_glo (v := .ref 111) B S (by decide) ?_
  refine cf1 (Bs.fn B.f111) ?_
  refine ev_cel (x := "second") (c := L + 3) S (by walk_at "mem") rfl ?_
  refine ⟨S.keep, ?_⟩
  refine c_prep' B S (by omega) hh hlen hok fun t3 h3 tk3 S3 => ?_
  refine s_y S3 fun h4 tk4 S4 => ?_
  exact k _ _ _ S4
theorem law_9 {rp rt a0 a1 a2 a3 a4 a5 a6 a7 : Addr} {p0 p1 p2 p3 p4 p5 p6 p7 : Nat × Str} {tx ty : Tok} {Q : Flow → Shared → Prop} (hh : A.handled = none) (S : St h₀ s.heap (core L m c K)) (hm : m "pieces" = some (.ref rp)) (hr : (rp, listP ([a0, a1, a2, a3, a4, a5, a6, a7].map .ref)) ∈ K)
    (hmt : c.ty = some (.ref rt)) (hrt : (rt, listP ([a1, a3, a5, a7].map .ref)) ∈ K)
    (hp : ∀ (j : Nat) (a : Addr), [a0, a2, a4, a6][j]? = some a → ∃ p, [p0, p2, p4, p6][j]? = some p ∧ (a, pieceP p) ∈ K) (hok : ∀ p ∈ [p0, p2, p4, p6], SignOk p)
    (hp' : ∀ (j : Nat) (a : Addr), [a1, a3, a5, a7][j]? = some a → ∃ p, [p1, p3, p5, p7][j]? = some p ∧ (a, pieceP p) ∈ K) (hok' : ∀ p ∈ [p1, p3, p5, p7], SignOk p)
    (hmx : m "x" = some (.str (ofL (means [p0, p2, p4, p6])) tx)) (hmy : c.y = some (.str (ofL (means [p1, p3, p5, p7])) ty))
    (k : ∀ h' tk, St h₀ h' (core L m c K) → wpAny (model pw w) A (execs (B13.drop 10) (eL x L)) Q E { s with heap := h', toks := tk }) :
    wpAny (model pw w) A (execs (B13.drop 9) (eL x L)) Q E s := by
  obtain ⟨cfr, cgr, cfs, cto, cpu, cle, cta, cro, cy, cse, cty, cun⟩ := c
  have hmt : cty = _ := hmt
  have hmy : cy = _ := hmy
  subst hmt hmy
  refine wpAny_execs_cons ?_
  refine wpAny_If ?_
  refine wpAny_isTrue_BoolOp ?_
  refine wpAny_allTrue_Or_cons ?_
  refine wpAny_isTrue_Compare1 ?_ rfl
  refine ev_loc (x := "x") S (.head _) hmx ?_
  refine joinP hh (fun p => p.2) (.inr ⟨rfl, rfl⟩) ?_ (by rfl) (by decide) (by rfl) (by decide) (by rfl) (by rfl) (by intro _; rfl)
  refine halves ?_
  refine ev_loc (x := "pieces") S (.head _) hm ?_
  refine wpAny_Constant_int ?_
  refine wpAny_Constant_int ?_
  refine ⟨h₀, _, rp, _, [a0, a2, a4, a6].map .ref, 0, _, _, rfl, rfl, rfl, S, inK hr, rfl, evens .., fun r h1 S1 => ?_⟩
  refine ⟨h₀, _, r, [a0, a2, a4, a6], [p0, p2, p4, p6], rfl, S1, .head _, rfl, (by decide : 4 ≤ 100), fun j a h => ?_, ?_, fun t1 h1 tk1 S2 => ?_⟩
  · obtain ⟨p, h1, h2⟩ := hp j a h
    exact ⟨p, h1, .tail _ (inK h2)⟩
  · have := sel_sum _ hok
    have e : [p0, p2, p4, p6].length = 4 := rfl
    omega
  rw [join_means]
  refine ne_str ?_
  refine wpAny_truthy_bool ?_
  refine ite_f (by simp) ?_
  refine wpAny_allTrue_Or_cons ?_
  refine wpAny_isTrue_Compare1 ?_ rfl
  have S2 := S2.drop
  refine ev_cel (x := "y") (c := L + 4) S2 (by walk_at "mem") rfl ?_
  refine joinP hh (fun p => p.2) (.inr ⟨rfl, rfl⟩) ?_ (by rfl) (by decide) (by rfl) (by decide) (by rfl) (by rfl) (by intro _; rfl)
  refine ev_cel (x := "typed") (c := L + 2) S2 (by walk_at "mem") rfl ?_
  refine ⟨h₀, _, rt, [a1, a3, a5, a7], [p1, p3, p5, p7], rfl, S2, inK hrt, rfl, (by decide : 4 ≤ 100), fun j a h => ?_, ?_, fun t3 h3 tk3 S3 => ?_⟩
  · obtain ⟨p, h1, h2⟩ := hp' j a h
    exact ⟨p, h1, inK h2⟩
  · have := sel_sum _ hok'
    have e : [p1, p3, p5, p7].length = 4 := rfl
    omega
  rw [join_means]
  refine ne_str ?_
  refine wpAny_truthy_bool ?_
  refine ite_f (by simp) ?_
  refine wpAny_allTrue_Or_nil ?_
  refine ite_f rfl ?_
  refine wpAny_execs_nil ?_
  exact k _ _ S3
end
end Mine
end
/-! text P1 -/
section
open PySem PySem.W
namespace Mine
/-! the digits of a number, told once -/
theorem dig_lt {U : Nat} (hU : 0 < U) : ∀ (k x : Nat), x < U ^ k → ∀ d ∈ dig U x k, d < U
  | 0, x, _, d, hd => nomatch hd
  | 1, x, hx, d, hd => by
    rw [dig, List.mem_singleton] at hd
    subst hd
    simpa using hx
  | k + 2, x, hx, d, hd => by
    rw [dig] at hd
    rcases List.mem_cons.mp hd with rfl | hd
    · exact Nat.mod_lt _ hU
    · refine dig_lt hU (k + 1) (x / U) ?_ d hd
      rw [Nat.div_lt_iff_lt_mul hU, ← Nat.pow_succ]; exact hx
theorem dig_dval {U : Nat} : ∀ (k x : Nat), 0 < k → dval U (dig U x k) = x
  | 1, x, _ => by simp [dig, dval]
  | k + 2, x, _ => by
    rw [dig, dval, dig_dval (k + 1) (x / U) (Nat.succ_pos _), Nat.add_comm, Nat.div_add_mod]
theorem dval_inj {U : Nat} (hU : 0 < U) : ∀ (a b : List Nat), a.length = b.length → (∀ d ∈ a, d < U) → (∀ d ∈ b, d < U) → dval U a = dval U b → a = b
  | [], [], _, _, _, _ => rfl
  | [], _ :: _, h, _, _, _ => by simp at h
  | _ :: _, [], h, _, _, _ => by simp at h
  | x :: a, y :: b, h, ha, hb, e => by
    rw [dval, dval] at e
    have hx := ha x (.head _)
    have hy := hb y (.head _)
    have e1 : x = y := by
      have h1 : (x + U * dval U a) % U = x := by rw [Nat.add_mul_mod_self_left, Nat.mod_eq_of_lt hx]
      have h2 : (y + U * dval U b) % U = y := by rw [Nat.add_mul_mod_self_left, Nat.mod_eq_of_lt hy]
      rw [← h1, ← h2, e]
    subst e1
    have e2 : dval U a = dval U b := Nat.eq_of_mul_eq_mul_left hU (Nat.add_left_cancel e)
    rw [dval_inj hU a b (by simpa using h) (fun d hd => ha d (.tail _ hd)) (fun d hd => hb d (.tail _ hd)) e2]
theorem dval_bound {U : Nat} (hU : 0 < U) : ∀ (ds : List Nat), (∀ d ∈ ds, d < U) → dval U ds < U ^ ds.length
  | [], _ => by simp [dval]
  | d :: ds, h => by
    have ih := dval_bound hU ds fun x hx => h x (.tail _ hx)
    have hd := h d (.head _)
    rw [dval, List.length_cons, Nat.pow_succ, Nat.mul_comm _ U]
    have : U * (dval U ds + 1) ≤ U * U ^ ds.length := Nat.mul_le_mul_left _ ih
    rw [Nat.mul_add, Nat.mul_one] at this
    omega
theorem bits_two {x : Nat} (hx : x ≠ 0) : 2 ^ (Builtin.Int.intBits (x : Int) - 1) ≤ x ∧ x < 2 ^ Builtin.Int.intBits (x : Int) ∧ 0 < Builtin.Int.intBits (x : Int) := by
  have e : Builtin.Int.intBits (x : Int) = x.log2 + 1 := by
    unfold Builtin.Int.intBits
    rw [if_neg (by simpa using hx), Int.natAbs_natCast]
  rw [e]
  exact ⟨by rw [Nat.add_sub_cancel]; exact Nat.log2_self_le hx, Nat.lt_log2_self, Nat.succ_pos _⟩
/-- the digits that _int2digits tells: all of them, but for noughts on top -/
theorem told_pad {n : Nat} (hn : 0 < n) {ds : List Nat} (hd : ∀ d ∈ ds, d < 2 ^ n) :
    ndig n (dval (2 ^ n) ds) ≤ ds.length ∧ dig (2 ^ n) (dval (2 ^ n) ds) (ndig n (dval (2 ^ n) ds)) ++ List.replicate (ds.length - ndig n (dval (2 ^ n) ds)) 0 = ds ∧
    ∀ l, dig (2 ^ n) (dval (2 ^ n) ds) (ndig n (dval (2 ^ n) ds)) ≠ l ++ [0] := by
  have hU : 0 < 2 ^ n := Nat.two_pow_pos n
  have hb := dval_bound hU ds hd
  generalize hx : dval (2 ^ n) ds = x at hb
  by_cases h0 : x = 0
  · subst h0
    have hz : ndig n 0 = 0 := by
      show (0 + n - 1) / n = 0
      exact Nat.div_eq_of_lt (by omega)
    rw [hz]
    refine ⟨Nat.zero_le _, ?_, fun l => ?_⟩
    · show [] ++ List.replicate (ds.length - 0) 0 = ds
      rw [List.nil_append, Nat.sub_zero]
      refine dval_inj hU _ _ (by rw [List.length_replicate]) (fun d h => ?_) hd ?_
      · rw [List.eq_of_mem_replicate h]; exact hU
      · rw [hx]
        have : ∀ k, dval (2 ^ n) (List.replicate k 0) = 0 := by
          intro k
          induction k with
          | zero => rfl
          | succ k ih => rw [List.replicate_succ, dval, ih, Nat.mul_zero]
        exact this _
    · show [] ≠ l ++ [0]
      simp
  · obtain ⟨b1, b2, b3⟩ := bits_two h0
    generalize hB : Builtin.Int.intBits (x : Int) = B at b1 b2 b3
    have hk : ndig n x = (B + n - 1) / n := by unfold ndig; rw [hB]
    generalize hK : ndig n x = k at hk
    have k1 : n * k ≤ B + n - 1 := hk ▸ Nat.mul_div_le _ _
    have k2 : B ≤ n * k := by
      have := Nat.lt_mul_div_succ (B + n - 1) hn
      rw [← hk, Nat.mul_add, Nat.mul_one] at this
      omega
    have kpos : 0 < k := by
      rcases Nat.eq_zero_or_pos k with h | h
      · subst h; omega
      · exact h
    have hxk : x < (2 ^ n) ^ k := by rw [← Nat.pow_mul]; exact Nat.lt_of_lt_of_le b2 (Nat.pow_le_pow_right (by decide) k2)
    have hxk' : (2 ^ n) ^ (k - 1) ≤ x := by
      rw [← Nat.pow_mul]
      refine Nat.le_trans (Nat.pow_le_pow_right (by decide) ?_) b1
      have : n * (k - 1) = n * k - n := by rw [Nat.mul_sub, Nat.mul_one]
      omega
    have hkl : k ≤ ds.length := by
      refine Nat.le_of_not_lt fun h => ?_
      have h1 : (2 ^ n) ^ ds.length ≤ (2 ^ n) ^ (k - 1) := Nat.pow_le_pow_right hU (by omega)
      omega
    refine ⟨hkl, ?_, fun l e => ?_⟩
    · refine dval_inj hU _ _ ?_ (fun d h => ?_) hd ?_
      · rw [List.length_append, dig_length, List.length_replicate]; omega
      · rcases List.mem_append.mp h with h | h
        · exact dig_lt hU _ _ hxk d h
        · rw [List.eq_of_mem_replicate h]; exact hU
      · rw [dval_append, dig_dval _ _ kpos, hx]
        have : ∀ k, dval (2 ^ n) (List.replicate k 0) = 0 := by
          intro k
          induction k with
          | zero => rfl
          | succ k ih => rw [List.replicate_succ, dval, ih, Nat.mul_zero]
        rw [this, Nat.mul_zero, Nat.add_zero]
    · have hl : l.length = k - 1 := by
        have := congrArg List.length e
        rw [dig_length, List.length_append, List.length_singleton] at this
        omega
      have hv := dig_dval (U := 2 ^ n) k x kpos
      rw [e, dval_append] at hv
      have hz : dval (2 ^ n) [0] = 0 := rfl
      rw [hz, Nat.mul_zero, Nat.add_zero] at hv
      have hlb := dval_bound hU l fun d hd => dig_lt hU _ _ hxk d (by rw [e]; exact List.mem_append_left _ hd)
      rw [hv, hl] at hlb
      omega
end Mine
end
/-! text P2 -/
section
open PySem PySem.W
namespace Mine
/-! one letter's turn, on flags: (in the row, has the letter) -/
noncomputable abbrev Fl := List (Bool × Bool)
noncomputable def nxt (r m : Bool) (c : Nat) : Nat := if r then 0 else if m then 1 else c
noncomputable def carr : Nat → Fl → List Nat
  | c, [] => [c]
  | c, (r, m) :: l => c :: carr (nxt r m c) l
noncomputable def putd (U : Nat) (r m : Bool) : Nat := if r then 0 else if m then U else U - 1
noncomputable def puts (U : Nat) (l : Fl) : List Nat := l.map fun q => putd U q.1 q.2
noncomputable def digs (U : Nat) : Nat → Fl → List Nat
  | c, [] => [c]
  | c, (r, m) :: l => (putd U r m + c) % U :: digs U (nxt r m c) l
theorem nxt_le {r m : Bool} {c : Nat} (h : c ≤ 1) : nxt r m c ≤ 1 := by
  unfold nxt
  cases r <;> cases m <;> simp <;> omega
theorem carr_length : ∀ (l : Fl) (c : Nat), (carr c l).length = l.length + 1
  | [], _ => rfl
  | (r, m) :: l, c => by rw [carr, List.length_cons, carr_length l, List.length_cons]
theorem digs_length (U : Nat) : ∀ (l : Fl) (c : Nat), (digs U c l).length = l.length + 1
  | [], _ => rfl
  | (r, m) :: l, c => by rw [digs, List.length_cons, digs_length U l, List.length_cons]
theorem put_carry {U : Nat} (hU : 2 ≤ U) (r m : Bool) {c : Nat} (hc : c ≤ 1) : putd U r m + c = (putd U r m + c) % U + U * nxt r m c := by
  unfold putd nxt
  cases r
  · cases m
    · simp only [Bool.false_eq_true, if_false]
      rcases Nat.lt_or_ge c 1 with h | h
      · have : c = 0 := by omega
        subst this
        rw [Nat.mod_eq_of_lt (by omega)]; omega
      · have : c = 1 := by omega
        subst this
        rw [show U - 1 + 1 = U by omega, Nat.mod_self]; omega
    · simp only [Bool.false_eq_true, if_false, if_true]
      rw [Nat.add_mod_left, Nat.mod_eq_of_lt (by omega)]; omega
  · simp only [if_true]
    rw [Nat.mod_eq_of_lt (by omega)]; omega
theorem carry_sum {U : Nat} (hU : 2 ≤ U) : ∀ (l : Fl) (c : Nat), c ≤ 1 → dval U (puts U l) + c = dval U (digs U c l)
  | [], c, _ => by simp [puts, digs, dval]
  | (r, m) :: l, c, hc => by
    have ih := carry_sum hU l (nxt r m c) (nxt_le hc)
    have h := put_carry hU r m hc
    rw [digs, dval, ← ih]
    show putd U r m + U * dval U (puts U l) + c = _
    rw [Nat.mul_add]
    omega
theorem digs_lt {U : Nat} (hU : 2 ≤ U) : ∀ (l : Fl) (c : Nat), c ≤ 1 → ∀ d ∈ digs U c l, d < U
  | [], c, hc, d, hd => by
    rw [digs, List.mem_singleton] at hd; omega
  | (r, m) :: l, c, hc, d, hd => by
    rw [digs] at hd
    rcases List.mem_cons.mp hd with rfl | hd
    · exact Nat.mod_lt _ (by omega)
    · exact digs_lt hU l _ (nxt_le hc) d hd
theorem puts_le {U : Nat} (l : Fl) : ∀ d ∈ puts U l, d ≤ U := by
  intro d hd
  obtain ⟨q, -, rfl⟩ := List.mem_map.mp hd
  unfold putd
  split
  · exact Nat.zero_le _
  · split <;> omega
/-- the table of a row -/
noncomputable def b2 (b : Bool) : Nat := if b then 1 else 0
noncomputable def tab : Nat → List Bool → List Nat
  | t, [] => [t]
  | t, r :: l => t :: tab (t + b2 r) l
noncomputable def newR : Nat → Fl → List Bool
  | _, [] => []
  | c, (r, m) :: l => ((r || m) && c == 0) :: newR (nxt r m c) l
theorem newR_length : ∀ (l : Fl) (c : Nat), (newR c l).length = l.length
  | [], _ => rfl
  | (r, m) :: l, c => by rw [newR, List.length_cons, newR_length l, List.length_cons]
theorem tab_length : ∀ (l : List Bool) (t : Nat), (tab t l).length = l.length + 1
  | [], _ => rfl
  | r :: l, t => by rw [tab, List.length_cons, tab_length l, List.length_cons]
/-- the fresh table is the old one and the carries -/
theorem tab_new : ∀ (l : Fl) (t c : Nat), c ≤ 1 → tab (t + c) (newR c l) = List.zipWith (· + ·) (tab t (l.map (·.1))) (carr c l)
  | [], t, c, _ => rfl
  | (r, m) :: l, t, c, hc => by
    rw [newR, tab, List.map_cons, tab, carr, List.zipWith_cons_cons, ← tab_new l _ _ (nxt_le hc)]
    congr 2
    unfold b2 nxt
    rcases Nat.lt_or_ge c 1 with h | h
    · have : c = 0 := by omega
      subst this
      cases r <;> cases m <;> simp
    · have : c = 1 := by omega
      subst this
      cases r <;> cases m <;> simp
/-- one step of the plain table -/
theorem fresh_step (t c : Nat) (r m : Bool) (hc : c ≤ 1) : (if m then t + 1 else max (t + b2 r) (t + c)) = t + b2 r + nxt r m c := by
  unfold b2 nxt
  cases r <;> cases m <;> simp <;> omega
theorem tab_get : ∀ (l : Fl) (t c p : Nat), c ≤ 1 → (hp : p < l.length) →
    (carr c l).getD (p + 1) 0 = nxt (l.getD p (false, false)).1 (l.getD p (false, false)).2 ((carr c l).getD p 0) ∧ (tab t (l.map (·.1))).getD (p + 1) 0 = (tab t (l.map (·.1))).getD p 0 + b2 (l.getD p (false, false)).1 ∧ (carr c l).getD p 0 ≤ 1
  | [], t, c, p, _, hp => absurd hp (Nat.not_lt_zero _)
  | (r, m) :: l, t, c, 0, hc, _ => by
    refine ⟨?_, ?_, hc⟩
    · cases l <;> rfl
    · cases l <;> rfl
  | (r, m) :: l, t, c, p + 1, hc, hp => by
    have ih := tab_get l (t + b2 r) (nxt r m c) p (nxt_le hc) (by simpa using hp)
    simpa [carr, tab] using ih
/-! the row -/
noncomputable def rowOf : Nat → List Bool → List Nat
  | _, [] => []
  | p, r :: l => if r then p :: rowOf (p + 1) l else rowOf (p + 1) l
noncomputable def newN : Nat → Fl → List Nat
  | _, [] => []
  | p, (r, m) :: l => if r then p :: newN (p + 1) l else if m then p :: (newN (p + 1) l).tail else newN (p + 1) l
theorem newN_eq : ∀ (l : Fl) (p : Nat), rowOf p (newR 0 l) = newN p l ∧ rowOf p (newR 1 l) = (newN p l).tail
  | [], p => ⟨rfl, rfl⟩
  | (r, m) :: l, p => by
    obtain ⟨h0, h1⟩ := newN_eq l (p + 1)
    cases r <;> cases m <;> simp [newR, rowOf, newN, nxt, h0, h1]
theorem rowOf_ge : ∀ (l : List Bool) (p : Nat), ∀ q ∈ rowOf p l, p ≤ q ∧ q < p + l.length
  | [], p, q, h => nomatch h
  | r :: l, p, q, h => by
    rw [rowOf] at h
    rw [List.length_cons]
    cases r
    · have := rowOf_ge l (p + 1) q (by simpa using h); omega
    · rcases List.mem_cons.mp (by simpa using h : q ∈ p :: rowOf (p + 1) l) with rfl | h
      · omega
      · have := rowOf_ge l (p + 1) q h; omega
theorem rowOf_sorted : ∀ (l : List Bool) (p : Nat), (rowOf p l).Pairwise (· < ·)
  | [], p => .nil
  | r :: l, p => by
    rw [rowOf]
    cases r
    · simpa using rowOf_sorted l (p + 1)
    · simp only [if_true]
      refine List.pairwise_cons.mpr ⟨fun q hq => ?_, rowOf_sorted l (p + 1)⟩
      have := rowOf_ge l (p + 1) q hq; omega
theorem rowOf_length_le : ∀ (l : List Bool) (p : Nat), (rowOf p l).length ≤ l.length
  | [], p => Nat.le_refl _
  | r :: l, p => by
    have := rowOf_length_le l (p + 1)
    rw [rowOf]
    cases r <;> simp <;> omega
theorem rowOf_app : ∀ (a b : List Bool) (p : Nat), rowOf p (a ++ b) = rowOf p a ++ rowOf (p + a.length) b
  | [], b, p => by simp [rowOf]
  | r :: a, b, p => by
    rw [List.cons_append, rowOf, rowOf, rowOf_app a b, List.length_cons, show p + 1 + a.length = p + (a.length + 1) by omega]
    cases r <;> simp
/-- membership by flags -/
theorem rowOf_mem : ∀ (l : List Bool) (p q : Nat), q < l.length → ((p + q ∈ rowOf p l) ↔ l.getD q false = true)
  | [], p, q, h => absurd h (Nat.not_lt_zero _)
  | r :: l, p, 0, h => by
    rw [rowOf]
    have hn : p ∉ rowOf (p + 1) l := fun hm => by have := rowOf_ge l (p + 1) p hm; omega
    cases r <;> simp [hn]
  | r :: l, p, q + 1, h => by
    have ih := rowOf_mem l (p + 1) q (by simpa using h)
    rw [rowOf, show p + (q + 1) = p + 1 + q by omega]
    have hne : p + 1 + q ≠ p := by omega
    cases r <;> simp [ih, hne]
/-- the table tells how many lie below -/
theorem tab_count : ∀ (l : List Bool) (t p q : Nat), q ≤ l.length → (tab t l).getD q 0 = t + ((rowOf p l).filter (· < p + q)).length
  | [], t, p, q, h => by
    have : q = 0 := by simpa using h
    subst this
    simp [tab, rowOf]
  | r :: l, t, p, 0, h => by
    have : (rowOf p (r :: l)).filter (· < p + 0) = [] := by
      rw [List.filter_eq_nil_iff]
      intro a ha
      have := rowOf_ge (r :: l) p a ha
      simp; omega
    rw [this]; simp [tab]
  | r :: l, t, p, q + 1, h => by
    have ih := tab_count l (t + b2 r) (p + 1) q (by simpa using h)
    rw [tab, List.getD_cons_succ, ih, rowOf, show p + (q + 1) = p + 1 + q by omega]
    cases r
    · simp [b2]
    · have : p < p + 1 + q := by omega
      simp [b2, this]; omega
end Mine
end
/-! text P3 -/
section
open PySem PySem.W
namespace Mine
noncomputable def curAt (l : Fl) (P : Nat) : List Nat := rowOf 0 ((l.map (·.1)).take P) ++ newN P (l.drop P)
noncomputable def jAt (l : Fl) (P : Nat) : Nat := (rowOf 0 ((l.map (·.1)).take P)).length
theorem newN_sorted (l : Fl) (p : Nat) : (newN p l).Pairwise (· < ·) := by rw [← (newN_eq l p).1]; exact rowOf_sorted _ _
theorem newN_ge (l : Fl) (p : Nat) : ∀ q ∈ newN p l, p ≤ q ∧ q < p + l.length := by
  intro q hq
  rw [← (newN_eq l p).1] at hq
  have := rowOf_ge _ _ q hq
  rwa [newR_length] at this
theorem take_lt (l : Fl) (P : Nat) : ∀ q ∈ rowOf 0 ((l.map (·.1)).take P), q < P := by
  intro q hq
  have := rowOf_ge _ _ q hq
  rw [List.length_take] at this
  omega
theorem curAt_sorted (l : Fl) (P : Nat) : (curAt l P).Pairwise (· < ·) := by
  refine List.pairwise_append.mpr ⟨rowOf_sorted _ _, newN_sorted _ _, fun a ha b hb => ?_⟩
  have h1 := take_lt l P a ha
  have h2 := newN_ge _ _ b hb
  omega
theorem curAt_top (l : Fl) : curAt l l.length = rowOf 0 (l.map (·.1)) := by
  unfold curAt
  rw [List.take_of_length_le (by simp), List.drop_length]
  simp [newN]
theorem curAt_zero (l : Fl) : curAt l 0 = rowOf 0 (newR 0 l) := by
  unfold curAt
  rw [(newN_eq l 0).1]; simp [rowOf]
section
variable (l : Fl) (P : Nat) (hP : P < l.length)
include hP
theorem take_succ' : rowOf 0 ((l.map (·.1)).take (P + 1)) = rowOf 0 ((l.map (·.1)).take P) ++ (if (l[P]).1 then [P] else []) := by
  have e : (l.map (·.1)).take (P + 1) = (l.map (·.1)).take P ++ [(l[P]).1] := by
    rw [List.take_add_one, List.getElem?_map, List.getElem?_eq_getElem hP]; rfl
  rw [e, rowOf_app, List.length_take, List.length_map, Nat.min_eq_left (by omega), Nat.zero_add]
  rfl
theorem jAt_mono : jAt l P ≤ jAt l (P + 1) := by
  unfold jAt
  rw [take_succ' l P hP, List.length_append]; omega
theorem newN_step : newN P (l.drop P) = if (l[P]).1 then P :: newN (P + 1) (l.drop (P + 1)) else if (l[P]).2 then P :: (newN (P + 1) (l.drop (P + 1))).tail else newN (P + 1) (l.drop (P + 1)) := by
  rw [List.drop_eq_getElem_cons hP]
  rfl
theorem curAt_succ : curAt l (P + 1) = rowOf 0 ((l.map (·.1)).take P) ++ ((if (l[P]).1 then [P] else []) ++ newN (P + 1) (l.drop (P + 1))) := by
  unfold curAt
  rw [take_succ' l P hP, List.append_assoc]
theorem curAt_count : ((curAt l (P + 1)).filter (· < P)).length = jAt l P := by
  rw [curAt_succ l P hP, List.filter_append]
  have e1 : (rowOf 0 ((l.map (·.1)).take P)).filter (· < P) = rowOf 0 ((l.map (·.1)).take P) := by
    rw [List.filter_eq_self]
    intro a ha
    simpa using take_lt l P a ha
  have e2 : ((if (l[P]).1 then [P] else []) ++ newN (P + 1) (l.drop (P + 1))).filter (· < P) = [] := by
    rw [List.filter_eq_nil_iff]
    intro a ha
    rcases List.mem_append.mp ha with h | h
    · split at h
      · rw [List.mem_singleton.mp h]; simp
      · cases h
    · have := newN_ge _ _ a h
      simp; omega
  rw [e1, e2, List.append_nil]; rfl
theorem curAt_keep (hm : (l[P]).2 = false) : curAt l P = curAt l (P + 1) := by
  rw [curAt_succ l P hP]
  unfold curAt
  rw [newN_step l P hP, hm]
  cases (l[P]).1 <;> simp
theorem curAt_push (hm : (l[P]).2 = true) (hj : jAt l P = (curAt l (P + 1)).length) : curAt l P = curAt l (P + 1) ++ [P] := by
  have hc := curAt_succ l P hP
  have hl : (curAt l (P + 1)).length = jAt l P + ((if (l[P]).1 then [P] else []) ++ newN (P + 1) (l.drop (P + 1))).length := by rw [hc, List.length_append]; rfl
  have h0 : (if (l[P]).1 then [P] else []) ++ newN (P + 1) (l.drop (P + 1)) = [] := List.eq_nil_of_length_eq_zero (by omega)
  have hr : (l[P]).1 = false := by
    cases h : (l[P]).1
    · rfl
    · rw [h] at h0; simp at h0
  rw [hc, h0]
  have h1 : newN (P + 1) (l.drop (P + 1)) = [] := by simpa [hr] using h0
  unfold curAt
  rw [newN_step l P hP, hm, hr, h1]
  simp
theorem curAt_set (hm : (l[P]).2 = true) (hj : jAt l P ≠ (curAt l (P + 1)).length) : jAt l P < (curAt l (P + 1)).length ∧ curAt l P = (curAt l (P + 1)).set (jAt l P) P := by
  have hc := curAt_succ l P hP
  have hl : (curAt l (P + 1)).length = jAt l P + ((if (l[P]).1 then [P] else []) ++ newN (P + 1) (l.drop (P + 1))).length := by rw [hc, List.length_append]; rfl
  refine ⟨by omega, ?_⟩
  rw [hc, List.set_append_right (i := jAt l P) (x := P) (show (rowOf 0 ((l.map (·.1)).take P)).length ≤ jAt l P from Nat.le_refl _)]
  unfold curAt
  rw [newN_step l P hP, hm]
  congr 1
  rw [show jAt l P - (rowOf 0 ((l.map (·.1)).take P)).length = 0 from Nat.sub_self _]
  cases h : (l[P]).1
  · rw [h] at hl
    simp only [Bool.false_eq_true, if_false, List.nil_append, if_true] at hl ⊢
    cases hn : newN (P + 1) (l.drop (P + 1)) with
    | nil => rw [hn] at hl; simp at hl; omega
    | cons a b => rfl
  · simp
theorem curAt_len : (curAt l (P + 1)).length ≤ (curAt l P).length := by
  cases hm : (l[P]).2
  · rw [curAt_keep l P hP hm]; exact Nat.le_refl _
  · by_cases hj : jAt l P = (curAt l (P + 1)).length
    · rw [curAt_push l P hP hm hj, List.length_append]; omega
    · rw [(curAt_set l P hP hm hj).2, List.length_set]; exact Nat.le_refl _
end
theorem jAt_le (l : Fl) (P : Nat) : jAt l P ≤ (curAt l P).length := by
  unfold curAt jAt
  rw [List.length_append]; omega
/-- cntLt on naturals -/
theorem cntLt_nat (xs : List Nat) (p : Nat) : cntLt (natL xs) (p : Int) = (xs.filter (· < p)).length := by
  unfold cntLt natL
  rw [List.filter_map, List.length_map]
  congr 1
  apply List.filter_congr
  intro a _
  show decide ((a : Int) < (p : Int)) = decide (a < p)
  simp
theorem natL_sorted {xs : List Nat} (h : xs.Pairwise (· < ·)) : (natL xs).Pairwise (· ≤ ·) := by
  unfold natL
  rw [List.pairwise_map]
  exact h.imp fun h => by show Int.ofNat _ ≤ Int.ofNat _; exact Int.ofNat_le.mpr (Nat.le_of_lt h)
/-! what the program's list of kept places is -/
theorem kept_eq {U : Nat} (hU : 2 ≤ U) : ∀ (l : Fl) (c p : Nat), c ≤ 1 → rowOf p (newR c l) = rowOf p (List.zipWith (fun a b => a % U == 0 && b == 0) (puts U l) (digs U c l))
  | [], c, p, _ => rfl
  | (r, m) :: l, c, p, hc => by
    have ih := kept_eq hU l (nxt r m c) (p + 1) (nxt_le hc)
    show rowOf p (((r || m) && c == 0) :: newR (nxt r m c) l) = rowOf p ((putd U r m % U == 0 && (putd U r m + c) % U == 0) :: List.zipWith _ (puts U l) (digs U (nxt r m c) l))
    have e : ((r || m) && c == 0) = (putd U r m % U == 0 && (putd U r m + c) % U == 0) := by
      unfold putd
      cases r
      · cases m
        · have h1 : (U - 1) % U = U - 1 := Nat.mod_eq_of_lt (by omega)
          have h2 : (U - 1 == 0) = false := by simp; omega
          simp [h1, h2]
        · have h1 : c % U = c := Nat.mod_eq_of_lt (by omega)
          simp [h1]
      · have h1 : c % U = c := Nat.mod_eq_of_lt (by omega)
        simp [h1]
    rw [e, rowOf, rowOf, ih]
end Mine
end
/-! text D5 -/
section
open PySem PySem.W PyProof.Rows PySem.Spec PySem.Calls PySem.SeqAt
set_option maxRecDepth 100000
set_option linter.unusedVariables false
set_option maxHeartbeats 1000000
namespace Mine
noncomputable def BL : List Stmt := match B13.getD 12 (.Pass ⟨0, 0, 0, 0⟩) with
  | .For _ _ b _ _ => b
  | _ => []
theorem mem_natL {xs : List Nat} {p : Nat} : ((p : Int) ∈ natL xs) ↔ p ∈ xs := by
  unfold natL
  rw [List.mem_map]
  constructor
  · rintro ⟨a, ha, e⟩
    have : a = p := Int.ofNat.inj e
    exact this ▸ ha
  · intro h; exact ⟨p, h, rfl⟩
theorem small_of' {n : Nat} (h0 : 0 ≤ n) (hb : n < 100000) : Builtin.Range.small 0 n 1 = true := by
  rcases Nat.eq_zero_or_pos n with h | h
  · subst h; decide
  · exact small_of (by omega) (by omega) (by omega)
/-- the flags of a letter -/
noncomputable def flg (rs : List Bool) (ys : List Nat) (a : Nat) : Fl := List.zipWith (fun r y => (r, y == a)) rs ys
theorem flg_length {rs : List Bool} {ys : List Nat} {a : Nat} (h : rs.length = ys.length) : (flg rs ys a).length = ys.length := by simp [flg, h]
theorem flg_fst {rs : List Bool} {ys : List Nat} {a : Nat} (h : rs.length = ys.length) : (flg rs ys a).map (·.1) = rs := by
  induction rs generalizing ys with
  | nil => cases ys <;> simp [flg]
  | cons r rs ih => cases ys with
    | nil => simp at h
    | cons y ys => simpa [flg] using ih (by simpa using h)
theorem flg_get {rs : List Bool} {ys : List Nat} {a : Nat} (h : rs.length = ys.length) {p : Nat} (hp : p < ys.length) : (flg rs ys a)[p]? = some (rs.getD p false, ys.getD p 0 == a) := by
  unfold flg
  rw [List.getElem?_zipWith, List.getElem?_eq_getElem (by omega : p < rs.length), List.getElem?_eq_getElem hp, List.getD_eq_getElem?_getD, List.getD_eq_getElem?_getD, List.getElem?_eq_getElem (by omega : p < rs.length), List.getElem?_eq_getElem hp]
  rfl
section
variable {w : World} {A : Around} {E : Value → Shared → Prop} {s : Shared} {t u : Tok} {h₀ : Gd} {H K : Led} {env : Env} {x : FX} {L : Addr} {m : Str → Option Value} {c : CV}
theorem sub_ofL {value slice : PySem.Expr} {ys : List Nat} {k : Nat} {Q : Value → Shared → Prop} (hk : k < ys.length) (hl : ys.length < 1000) (h : ∀ t' tk, Q (.str ⟨#[ys.getD k 0]⟩ t') { s with toks := tk })
    (hs : subscripted slice false (.str (ofL ys) t) (.int k u) = operate [.str (ofL ys) t, .int k u] (getItem (.str (ofL ys) t) (.int k u)) := by with_unfolding_all rfl) :
    wpAny (model pw w) A (subscriptTail value slice (.str (ofL ys) t) (.int k u)) Q E s := by
  refine tail_any (typeIs_str _ _ _) F.slot_str_getitem.lookup (P.getItem_str (c := ys.getD k 0) ?_ ?_ (h _ _)) hs
  · rw [decide_eq_false (by omega), decide_eq_false (by omega)]; rfl
  · have hlen : (ofL ys).length = ys.length := List.size_toArray ..
    have e : seqIndex? (k : Int) (ofL ys).length = some k := by
      rw [hlen]; unfold seqIndex?
      simp; omega
    rw [e]
    show (ofL ys).cps[k]? = _
    rw [show (ofL ys).cps = ys.toArray from rfl, List.getElem?_toArray]
    exact getD_some ys k 0 hk
theorem len_ofL {ys : List Nat} {Q : Value → Shared → Prop} (hl : ys.length < 1000) (h : ∀ t' tk, Q (.int ys.length t') { s with toks := tk }) : wpAny (model pw w) A (call (.builtin "len") [.str (ofL ys) t]) Q E s := by
  have hlen : (ofL ys).length = ys.length := List.size_toArray ..
  refine P.len_str (by rw [hlen]; omega) ?_
  rw [hlen]
  exact h _ _
theorem law_10 {Q : Flow → Shared → Prop} (S : St h₀ s.heap (core L m c K))
    (k : ∀ r h' tk, St h₀ h' (core L m { c with ro := some (.ref r) } ((r, intsP (natL [])) :: K)) → wpAny (model pw w) A (execs (B13.drop 11) (eL x L)) Q E { s with heap := h', toks := tk }) :
    wpAny (model pw w) A (execs (B13.drop 10) (eL x L)) Q E s := by
  refine wpAny_execs_cons ?_
  refine wpAny_Assign_Name ?_
  refine lit_ints S (xs := natL []) rfl (by decide) fun r h1 tk1 S1 => ?_
  refine s_ro (toK S1) fun h2 tk2 S2 => ?_
  exact k _ _ _ S2
theorem law_11 {ys : List Nat} {ty : Tok} {Q : Flow → Shared → Prop} (B : Bs w h₀) (S : St h₀ s.heap (core L m c K)) (hy : c.y = some (.str (ofL ys) ty)) (hl : ys.length ≤ 12)
    (k : ∀ r h' tk, St h₀ h' (core L m { c with ta := some (.ref r) } ((r, intsP (natL (List.replicate (ys.length + 1) 0))) :: K)) → wpAny (model pw w) A (execs (B13.drop 12) (eL x L)) Q E { s with heap := h', toks := tk }) :
    wpAny (model pw w) A (execs (B13.drop 11) (eL x L)) Q E s := by
  obtain ⟨cfr, cgr, cfs, cto, cpu, cle, cta, cro, cy, cse, cty, cun⟩ := c
  have hy : cy = _ := hy
  subst hy
  refine wpAny_execs_cons ?_
  refine wpAny_Assign_Name ?_
  refine wpAny_BinOp ?_
  refine lit_ints S (xs := [0]) rfl (by decide) fun r h1 tk1 S1 => ?_
  refine wpAny_BinOp ?_
  refine wpAny_Call_NameR ?_
  refine ev_blt B S1 (v := .builtin "len") (by decide) (by decide +kernel) ?_
  refine cb1 ?_
  refine ev_cel (x := "y") (c := L + 4) S1 (by walk_at "mem") rfl ?_
  refine len_ofL (by omega) fun t2 tk2 => ?_
  refine wpAny_Constant_int ?_
  refine addn (b := 1) ?_
  refine mul_ints S1 (.head _) (by omega) (by simp; omega) (by omega) fun r2 h2 S2 => ?_
  have e : (List.replicate (((ys.length + 1 : Nat) : Int)).toNat [(0 : Int)]).flatten = natL (List.replicate (ys.length + 1) 0) := by
    rw [Int.toNat_natCast]
    simp [natL]
  rw [e] at S2
  have S3 := S2.sub (H' := (r2, intsP (natL (List.replicate (ys.length + 1) 0))) :: core L m _ K) (.cons_cons _ (.cons _ (List.Sublist.refl _)))
  refine s_ta (toK S3) fun h2 tk2 S2 => ?_
  exact k _ _ _ S2
theorem one_beq {a b : Nat} : ((⟨#[a]⟩ : Str) == ⟨#[b]⟩) = (a == b) := by
  rw [← str_beq, Bool.eq_iff_iff]
  simp
/-- put = [...] -/
theorem body_0 {rs : List Bool} {ys : List Nat} {a wd : Nat} {rr : Addr} {ty tl tu : Tok} {Q : Flow → Shared → Prop} (B : Bs w h₀) (hh : A.handled = none) (S : St h₀ s.heap (core L m c K)) (hy : c.y = some (.str (ofL ys) ty)) (hle : c.le = some (.str ⟨#[a]⟩ tl)) (hun : c.un = some (.int (2 ^ wd : Nat) tu)) (hro : c.ro = some (.ref rr))
    (hK : (rr, intsP (natL (rowOf 0 rs))) ∈ K) (hrs : rs.length = ys.length) (hl : ys.length ≤ 12) (hw : 0 < wd)
    (k : ∀ r h' tk, St h₀ h' (core L m { c with pu := some (.ref r) } ((r, intsP (natL (puts (2 ^ wd) (flg rs ys a)))) :: K)) → wpAny (model pw w) A (execs (BL.drop 1) (eL x L)) Q E { s with heap := h', toks := tk }) :
    wpAny (model pw w) A (execs BL (eL x L)) Q E s := by
  obtain ⟨cfr, cgr, cfs, cto, cpu, cle, cta, cro, cy, cse, cty, cun⟩ := c
  have hy : cy = _ := hy
  have hle : cle = _ := hle
  have hun : cun = _ := hun
  have hro : cro = _ := hro
  subst hy hle hun hro
  refine wpAny_execs_cons ?_
  refine wpAny_Assign_Name ?_
  refine lc (by rfl) hh ?_
  refine wpAny_Call_NameR ?_
  refine ev_blt B S (v := .type "range") (by decide) (by decide +kernel) ?_
  refine ct1 ?_
  refine wpAny_Call_NameR ?_
  refine ev_blt B S (v := .builtin "len") (by decide) (by decide +kernel) ?_
  refine cb1 ?_
  refine ev_cel (x := "y") (c := L + 4) S (by walk_at "mem") rfl ?_
  refine len_ofL (by omega) fun t2 tk2 => ?_
  refine range1 S (by omega) fun r h1 tk1 t1 t2 t3 S1 => ?_
  refine iter_range S1 (.head _) (n := ys.length) (small_of' (by omega) (by omega)) (by rw [rangeSize_one]; split <;> omega) fun I h2 W S2 => ?_
  have hn : ys.length ≤ sizeLine := Nat.le_trans hl (by decide)
  have hfl : (flg rs ys a).length = ys.length := flg_length hrs
  refine ⟨fun i vs K' => K' = (r, _) :: core L m _ K ∧ IntsAre vs (natL (puts (2 ^ wd) ((flg rs ys a).take i))), I, _, _, _, _, _, _, rfl, W, hn, (fun _ _ _ _ p hp => nomatch hp), S2, ⟨rfl, .nil⟩, ?_, ?_⟩
  · rintro i v C D mC K' vs hp tk' E' Qt Qf hi ⟨tv, rfl⟩ ⟨rfl, hvs⟩ hm hvl S3 kt kf
    have ei : (0 : Int) + (i : Int) * 1 = ((i : Nat) : Int) := by omega
    rw [ei] at hm
    have hg := flg_get (a := a) hrs hi
    have htk : (flg rs ys a).take (i + 1) = (flg rs ys a).take i ++ [(rs.getD i false, ys.getD i 0 == a)] := by rw [List.take_add_one, hg]; rfl
    have hsn : ∀ (z : Int) (tz : Tok), z = ((putd (2 ^ wd) (rs.getD i false) (ys.getD i 0 == a) : Nat) : Int) → IntsAre (vs ++ [.int z tz]) (natL (puts (2 ^ wd) ((flg rs ys a).take (i + 1)))) := fun z tz hz => by
      subst hz
      rw [htk, puts, List.map_append, natL_append]
      exact ints_snoc hvs _ _
    refine no_tests ?_
    refine ite_t rfl ?_
    refine wpAny_IfExp ?_
    refine wpAny_isTrue_Compare1 ?_ rfl
    refine ev_loc (x := "p") S3 (.head _) hm ?_
    refine ev_cel (x := "row") (c := L + 5) S3 (by walk_at "mem") rfl ?_
    refine in_ints S3 (.tail _ (.tail _ (.tail _ (.tail _ (inK hK))))) ?_
    refine wpAny_truthy_bool ?_
    have hmem : decide (((i : Nat) : Int) ∈ natL (rowOf 0 rs)) = rs.getD i false := by
      have h1 := rowOf_mem rs 0 i (by omega)
      rw [Nat.zero_add] at h1
      rw [Bool.eq_iff_iff, decide_eq_true_eq, mem_natL, h1]
    rw [hmem]
    cases hr : rs.getD i false
    · refine ite_f rfl ?_
      rw [hr] at hsn
      refine wpAny_IfExp ?_
      refine wpAny_isTrue_Compare1 ?_ rfl
      refine Subscript_ ?_
      refine ev_cel (x := "y") (c := L + 4) S3 (by walk_at "mem") rfl ?_
      refine ev_loc (x := "p") S3 (.head _) hm ?_
      refine sub_ofL hi (by omega) fun t5 tk5 => ?_
      refine ev_cel (x := "letter") (c := L + 7) S3 (by walk_at "mem") rfl ?_
      refine eq_str ?_
      refine wpAny_truthy_bool ?_
      rw [one_beq]
      cases hb : (ys.getD i 0 == a)
      · refine ite_f rfl ?_
        rw [hb] at hsn
        refine wpAny_BinOp ?_
        refine ev_cel (x := "unit") (c := L + 1) S3 (by walk_at "mem") rfl ?_
        refine wpAny_Constant_int ?_
        refine sub_to ((2 ^ wd - 1 : Nat) : Int) (by have := Nat.two_pow_pos wd; omega) ?_
        exact kt _ _ _ _ ⟨rfl, hsn _ _ rfl⟩ S3
      · refine ite_t rfl ?_
        rw [hb] at hsn
        refine ev_cel (x := "unit") (c := L + 1) S3 (by walk_at "mem") rfl ?_
        exact kt _ _ _ _ ⟨rfl, hsn _ _ rfl⟩ S3
    · refine ite_t rfl ?_
      rw [hr] at hsn
      refine wpAny_Constant_int ?_
      exact kt _ _ _ _ ⟨rfl, hsn _ _ rfl⟩ S3
  · rintro D vs K' hp tk' ⟨rfl, hvs⟩ S6
    rw [show (flg rs ys a).take ys.length = flg rs ys a by rw [← hfl, List.take_length]] at hvs
    have S7 : St h₀ hp ((D, intsP (natL (puts (2 ^ wd) (flg rs ys a)))) :: _) := S6.weak fun o ho => ⟨vs, hvs, ho⟩
    refine s_pu (toK (S7.sub (.cons_cons _ (.cons _ (List.Sublist.refl _))))) fun h2 tk2 S2 => ?_
    exact k _ _ _ S2
end
end Mine
end
/-! text D6 -/
section
open PySem PySem.W PyProof.Rows PySem.Spec PySem.Calls PySem.SeqAt
set_option maxRecDepth 100000
set_option linter.unusedVariables false
set_option maxHeartbeats 1000000
namespace Mine
/-- what _int2digits tells -/
noncomputable def tz (wd : Nat) (l : Fl) : List Nat := dig (2 ^ wd) (dval (2 ^ wd) (digs (2 ^ wd) 0 l)) (ndig wd (dval (2 ^ wd) (digs (2 ^ wd) 0 l)))
theorem two_le {wd : Nat} (h : 0 < wd) : 2 ≤ 2 ^ wd := by
  have := Nat.pow_le_pow_right (n := 2) (by decide) h
  simpa using this
theorem tz_pad {wd : Nat} (h : 0 < wd) (l : Fl) : (tz wd l).length ≤ l.length + 1 ∧ tz wd l ++ List.replicate (l.length + 1 - (tz wd l).length) 0 = digs (2 ^ wd) 0 l ∧ (∀ q, tz wd l ≠ q ++ [0]) ∧ ndig wd (dval (2 ^ wd) (digs (2 ^ wd) 0 l)) ≤ l.length + 1 := by
  obtain ⟨h1, h2, h3⟩ := told_pad h (ds := digs (2 ^ wd) 0 l) (digs_lt (two_le h) l 0 (Nat.zero_le _))
  rw [digs_length] at h1 h2
  have e : (tz wd l).length = ndig wd (dval (2 ^ wd) (digs (2 ^ wd) 0 l)) := dig_length _ _ _
  rw [e]
  exact ⟨h1, h2, h3, h1⟩
theorem big_ok {wd n : Nat} (hw : wd ≤ 1400) (hn : n ≤ 13) : (2 ^ wd) ^ n ≤ 2 ^ 100000 := by
  rw [← Nat.pow_mul]
  refine Nat.pow_le_pow_right (by decide) ?_
  exact Nat.le_trans (Nat.mul_le_mul hw hn) (by decide)
theorem last_not {xs : List Nat} (h : ∀ q, xs ≠ q ++ [0]) : (natL xs).drop ((natL xs).length - 1) ≠ [0] := by
  intro e
  rw [natL_length] at e
  have e2 : natL (xs.drop (xs.length - 1)) = natL [0] := by
    rw [show natL (xs.drop (xs.length - 1)) = (natL xs).drop (xs.length - 1) from List.map_drop ..]
    exact e
  have e3 : xs.drop (xs.length - 1) = [0] := by
    unfold natL at e2
    exact (List.map_inj_right (fun a b h => Int.ofNat.inj h)).mp e2
  exact h (xs.take (xs.length - 1)) (by rw [← e3, List.take_append_drop])
section
variable {w : World} {A : Around} {E : Value → Shared → Prop} {s : Shared} {t u : Tok} {h₀ : Gd} {H K : Led} {env : Env} {x : FX} {L : Addr} {m : Str → Option Value} {c : CV}
theorem body_1 {l : Fl} {wd : Nat} {rp : Addr} {tw : Tok} {Q : Flow → Shared → Prop} (B : Bs w h₀) (hA : A.depth < 700) (S : St h₀ s.heap (core L m c K)) (hpu : c.pu = some (.ref rp)) (hK : (rp, intsP (natL (puts (2 ^ wd) l))) ∈ K) (hm : m "width" = some (.int wd tw)) (hl : l.length ≤ 12) (hw : 0 < wd) (hw2 : wd ≤ 1400)
    (k : ∀ g r h' tk, g.base = h₀.base → St g h' (core L m { c with to := some (.ref r) } ((r, intsP (natL (tz wd l))) :: K)) → wpAny (model pw w) A (execs (BL.drop 2) (eL x L)) Q E { s with heap := h', toks := tk }) :
    wpAny (model pw w) A (execs (BL.drop 1) (eL x L)) Q E s := by
  obtain ⟨cfr, cgr, cfs, cto, cpu, cle, cta, cro, cy, cse, cty, cun⟩ := c
  have hpu : cpu = _ := hpu
  subst hpu
  refine wpAny_execs_cons ?_
  refine wpAny_Assign_Name ?_
  refine wpAny_Call_NameR ?_
  refine ev_glo (v := .ref 21) B S (by decide) ?_
  refine cf2 (Bs.fn B.f21) ?_
  refine wpAny_Call_NameR ?_
  refine ev_glo (v := .ref 28) B S (by decide) ?_
  refine cf2 (Bs.fn B.f28) ?_
  refine ev_cel (x := "put") (c := L + 8) S (by walk_at "mem") rfl ?_
  refine ev_loc (x := "width") S (.head _) hm ?_
  refine ⟨S.keep, ?_⟩
  have hpl : (puts (2 ^ wd) l).length = l.length := List.length_map ..
  refine c_d2i B S (by omega) (puts_le l) hw2 (by omega) (inK hK) fun c2 t2 h2 tk2 S2 => ?_
  have B2 : Bs w { h₀ with c2 := some c2 } := B
  have es : dval (2 ^ wd) (puts (2 ^ wd) l) = dval (2 ^ wd) (digs (2 ^ wd) 0 l) := carry_sum (two_le hw) l 0 (Nat.zero_le _)
  rw [es]
  refine ev_loc (x := "width") S2 (.head _) hm ?_
  refine ⟨S2.keep, ?_⟩
  obtain ⟨p1, p2, p3, p4⟩ := tz_pad hw l
  refine c_i2d B2 S2 (by omega) hw2 hw ?_ (by omega) fun c1 r h3 tk3 S3 => ?_
  · refine Nat.lt_of_lt_of_le (dval_bound (Nat.two_pow_pos wd) _ (digs_lt (two_le hw) l 0 (Nat.zero_le _))) ?_
    rw [digs_length]
    exact big_ok hw2 (by omega)
  refine s_to (toK S3) fun h4 tk4 S4 => ?_
  exact k ⟨h₀.base, some c1, some c2⟩ _ _ _ rfl S4
theorem body_2 {l : Fl} {wd : Nat} {rt : Addr} {Q : Flow → Shared → Prop} (hu : A.units < cLine) (S : St h₀ s.heap (core L m c K)) (hto : c.to = some (.ref rt)) (hK : (rt, intsP (natL (tz wd l))) ∈ K) (hl : l.length ≤ 12) (hw : 0 < wd)
    (k : ∀ h' tk, St h₀ h' (core L m c K) → wpAny (model pw w) A (execs (BL.drop 3) (eL x L)) Q E { s with heap := h', toks := tk }) :
    wpAny (model pw w) A (execs (BL.drop 2) (eL x L)) Q E s := by
  obtain ⟨cfr, cgr, cfs, cto, cpu, cle, cta, cro, cy, cse, cty, cun⟩ := c
  have hto : cto = _ := hto
  subst hto
  obtain ⟨p1, p2, p3, p4⟩ := tz_pad hw l
  refine wpAny_execs_cons ?_
  refine wpAny_If ?_
  refine wpAny_isTrue_Compare1 ?_ rfl
  refine last_ints ?_
  refine ev_cel (x := "told") (c := L + 9) S (by walk_at "mem") rfl ?_
  refine wpAny_UnaryOp ?_
  refine wpAny_Constant_int ?_
  refine neg_to (-1) rfl ?_
  refine ⟨h₀, _, rt, _, _, rfl, rfl, S, inK hK, by rw [natL_length]; omega, fun r h1 S1 => ?_⟩
  refine lit_ints S1 (xs := [0]) rfl (by decide) fun r2 h2 tk2 S2 => ?_
  refine eq_ints S2 (.tail _ (.head _)) (.head _) hu ?_
  refine wpAny_truthy_bool ?_
  refine ite_f (decide_eq_false (last_not p3)) ?_
  refine wpAny_execs_nil ?_
  exact k _ _ S2.drop.drop
theorem body_3 {l : Fl} {ys : List Nat} {wd : Nat} {rt : Addr} {ty : Tok} {Q : Flow → Shared → Prop} (B : Bs w h₀) (S : St h₀ s.heap (core L m c K)) (hto : c.to = some (.ref rt)) (hK : (rt, intsP (natL (tz wd l))) ∈ K) (hy : c.y = some (.str (ofL ys) ty)) (hly : l.length = ys.length) (hl : ys.length ≤ 12) (hw : 0 < wd)
    (k : ∀ r h' tk, St h₀ h' (core L m { c with to := some (.ref r) } ((r, intsP (natL (digs (2 ^ wd) 0 l))) :: K)) → wpAny (model pw w) A (execs (BL.drop 4) (eL x L)) Q E { s with heap := h', toks := tk }) :
    wpAny (model pw w) A (execs (BL.drop 3) (eL x L)) Q E s := by
  obtain ⟨cfr, cgr, cfs, cto, cpu, cle, cta, cro, cy, cse, cty, cun⟩ := c
  have hto : cto = _ := hto
  have hy : cy = _ := hy
  subst hto hy
  obtain ⟨p1, p2, p3, p4⟩ := tz_pad hw l
  refine wpAny_execs_cons ?_
  refine wpAny_Assign_Name ?_
  refine wpAny_BinOp ?_
  refine ev_cel (x := "told") (c := L + 9) S (by walk_at "mem") rfl ?_
  refine wpAny_BinOp ?_
  refine lit_ints S (xs := [0]) rfl (by decide) fun r1 h1 tk1 S1 => ?_
  refine wpAny_BinOp ?_
  refine wpAny_BinOp ?_
  refine wpAny_Call_NameR ?_
  refine ev_blt B S1 (v := .builtin "len") (by decide) (by decide +kernel) ?_
  refine cb1 ?_
  refine ev_cel (x := "y") (c := L + 4) S1 (by walk_at "mem") rfl ?_
  refine len_ofL (by omega) fun t2 tk2 => ?_
  refine wpAny_Constant_int ?_
  refine addn (b := 1) ?_
  refine wpAny_Call_NameR ?_
  refine ev_blt B S1 (v := .builtin "len") (by decide) (by decide +kernel) ?_
  refine cb1 ?_
  refine ev_cel (x := "told") (c := L + 9) S1 (by walk_at "mem") rfl ?_
  refine len_ints S1 (.tail _ (inK hK)) (by rw [natL_length]; omega) fun t3 tk3 => ?_
  rw [natL_length]
  refine subn (by omega) ?_
  refine mul_ints S1 (.head _) (by omega) (by simp; omega) (by omega) fun r2 h2 S2 => ?_
  refine add_ints S2 (.tail _ (.tail _ (inK hK))) (.head _) ?_ fun r3 h3 S3 => ?_
  · rw [natL_length]; simp; omega
  have e : natL (tz wd l) ++ (List.replicate (((ys.length + 1 - (tz wd l).length : Nat) : Int)).toNat [(0 : Int)]).flatten = natL (digs (2 ^ wd) 0 l) := by
    rw [← p2, natL_append, hly, Int.toNat_natCast]
    simp [natL]
  rw [e] at S3
  have S4 := S3.sub (H' := (r3, intsP (natL (digs (2 ^ wd) 0 l))) :: core L m _ K) (.cons_cons _ (.cons _ (.cons _ (List.Sublist.refl _))))
  refine s_to (toK S4) fun h5 tk5 S5 => ?_
  exact k _ _ _ S5
end
end Mine
end
/-! text P4 -/
section
open PySem PySem.W
namespace Mine
/-- the fresh table -/
noncomputable def frL (l : Fl) : List Nat := tab 0 (newR 0 l)
theorem frL_length (l : Fl) : (frL l).length = l.length + 1 := by rw [frL, tab_length, newR_length]
theorem zip_getD {a b : List Nat} {p : Nat} (ha : p < a.length) (hb : p < b.length) : (List.zipWith (· + ·) a b).getD p 0 = a.getD p 0 + b.getD p 0 := by
  simp [List.getD_eq_getElem?_getD, List.getElem?_zipWith, List.getElem?_eq_getElem ha, List.getElem?_eq_getElem hb]
theorem frL_get (l : Fl) {p : Nat} (hp : p ≤ l.length) : (frL l).getD p 0 = (tab 0 (l.map (·.1))).getD p 0 + (carr 0 l).getD p 0 := by
  have e := tab_new l 0 0 (Nat.zero_le _)
  rw [frL, show (tab 0 (newR 0 l)) = tab (0 + 0) (newR 0 l) from rfl, e]
  exact zip_getD (by rw [tab_length, List.length_map]; omega) (by rw [carr_length]; omega)
theorem frL_step (l : Fl) {p : Nat} (hp : p < l.length) : (frL l).getD (p + 1) 0 = if (l.getD p (false, false)).2 then (tab 0 (l.map (·.1))).getD p 0 + 1 else max ((tab 0 (l.map (·.1))).getD (p + 1) 0) ((frL l).getD p 0) := by
  obtain ⟨h1, h2, h3⟩ := tab_get l 0 0 p (Nat.zero_le _) hp
  rw [frL_get l hp, frL_get l (Nat.le_of_lt hp), h1, h2, fresh_step _ _ _ _ h3]
theorem digs_get (U : Nat) : ∀ (l : Fl) (c p : Nat), p < l.length → (digs U c l).getD p 0 = ((puts U l).getD p 0 + (carr c l).getD p 0) % U
  | [], c, p, h => absurd h (Nat.not_lt_zero _)
  | (r, m) :: l, c, 0, _ => rfl
  | (r, m) :: l, c, p + 1, h => by
    have ih := digs_get U l (nxt r m c) p (by simpa using h)
    simpa [digs, puts, carr] using ih
theorem digs_top (U : Nat) : ∀ (l : Fl) (c : Nat), (digs U c l).drop l.length = (carr c l).drop l.length
  | [], c => rfl
  | (r, m) :: l, c => by simpa [digs, carr] using digs_top U l (nxt r m c)
/-- places kept by a test, as a filter over range -/
theorem rowOf_range (f : Nat → Bool) : ∀ (n p : Nat), rowOf p ((List.range n).map fun i => f (p + i)) = ((List.range n).map (p + ·)).filter f
  | 0, p => rfl
  | n + 1, p => by
    have ih := rowOf_range f n (p + 1)
    rw [List.range_succ_eq_map, List.map_cons, List.map_cons, List.map_map, List.map_map, rowOf, List.filter_cons]
    have e1 : ((fun i => f (p + i)) ∘ Nat.succ) = fun i => f (p + 1 + i) := by funext i; simp [Nat.add_assoc, Nat.add_comm 1]
    have e2 : ((fun x => p + x) ∘ Nat.succ) = fun x => p + 1 + x := by funext i; simp [Nat.add_assoc, Nat.add_comm 1]
    rw [e1, e2, ih]
    simp
theorem kept_range {U : Nat} (hU : 2 ≤ U) (l : Fl) : rowOf 0 (newR 0 l) = (List.range l.length).filter fun p => (puts U l).getD p 0 % U == 0 && (digs U 0 l).getD p 0 == 0 := by
  rw [kept_eq hU l 0 0 (Nat.zero_le _)]
  have hpl : (puts U l).length = l.length := List.length_map ..
  have e : List.zipWith (fun a b => a % U == 0 && b == 0) (puts U l) (digs U 0 l) = (List.range l.length).map fun i => (fun p => (puts U l).getD p 0 % U == 0 && (digs U 0 l).getD p 0 == 0) (0 + i) := by
    apply List.ext_getElem
    · rw [List.length_zipWith, hpl, digs_length, List.length_map, List.length_range]; omega
    · intro i h1 h2
      rw [List.length_map, List.length_range] at h2
      have a1 : i < (puts U l).length := by omega
      have a2 : i < (digs U 0 l).length := by rw [digs_length]; omega
      simp [List.getD_eq_getElem?_getD, List.getElem?_eq_getElem a1, List.getElem?_eq_getElem a2]
  rw [e, rowOf_range (fun p => (puts U l).getD p 0 % U == 0 && (digs U 0 l).getD p 0 == 0)]
  congr 1
  simp
end Mine
end
/-! text D7 -/
section
open PySem PySem.W PyProof.Rows PySem.Spec PySem.Calls PySem.SeqAt
set_option maxRecDepth 100000
set_option linter.unusedVariables false
set_option maxHeartbeats 1000000
namespace Mine
section
variable {w : World} {A : Around} {E : Value → Shared → Prop} {s : Shared} {t u : Tok} {h₀ : Gd} {H K : Led} {env : Env} {x : FX} {L : Addr} {m : Str → Option Value} {c : CV}
theorem upK {r : Addr} {P P' : PO} : Up r P P' (core L m c ((r, P) :: K)) (core L m c ((r, P') :: K)) :=
  .tail (.tail (.tail (.tail (.tail (.tail (.tail (.tail (.tail (.tail (.tail (.tail (.tail .head))))))))))))
theorem body_4 {Q : Flow → Shared → Prop} (S : St h₀ s.heap (core L m c K))
    (k : ∀ r h' tk, St h₀ h' (core L m { c with fs := some (.ref r) } ((r, intsP (natL [0])) :: K)) → wpAny (model pw w) A (execs (BL.drop 5) (eL x L)) Q E { s with heap := h', toks := tk }) :
    wpAny (model pw w) A (execs (BL.drop 4) (eL x L)) Q E s := by
  refine wpAny_execs_cons ?_
  refine wpAny_Assign_Name ?_
  refine lit_ints S (xs := natL [0]) rfl (by decide) fun r h1 tk1 S1 => ?_
  refine s_fs (toK S1) fun h2 tk2 S2 => ?_
  exact k _ _ _ S2
theorem take_snoc {xs : List Nat} {i : Nat} (h : i < xs.length) : natL (xs.take (i + 1)) = natL (xs.take i) ++ [((xs.getD i 0 : Nat) : Int)] := by
  rw [List.take_add_one, getD_some xs i 0 h]
  exact natL_append _ _
theorem frL_zero (l : Fl) : (frL l).take 1 = [0] := by
  unfold frL
  cases l with
  | nil => rfl
  | cons q l => obtain ⟨r, m⟩ := q; rfl
theorem body_5 {rs : List Bool} {ys : List Nat} {a : Nat} {rt rf : Addr} {ty tl : Tok} {Q : Flow → Shared → Prop} (B : Bs w h₀) (hh : A.handled = none) (S : St h₀ s.heap (core L m c ((rf, intsP (natL [0])) :: K))) (hfs : c.fs = some (.ref rf)) (hta : c.ta = some (.ref rt)) (hy : c.y = some (.str (ofL ys) ty)) (hle : c.le = some (.str ⟨#[a]⟩ tl))
    (hK : (rt, intsP (natL (tab 0 rs))) ∈ K) (hrs : rs.length = ys.length) (hl : ys.length ≤ 12)
    (k : ∀ m' h' tk, (∀ z : Str, z ≠ "p" → m' z = m z) → St h₀ h' (core L m' c ((rf, intsP (natL (frL (flg rs ys a)))) :: K)) → wpAny (model pw w) A (execs (BL.drop 6) (eL x L)) Q E { s with heap := h', toks := tk }) :
    wpAny (model pw w) A (execs (BL.drop 5) (eL x L)) Q E s := by
  obtain ⟨cfr, cgr, cfs, cto, cpu, cle, cta, cro, cy, cse, cty, cun⟩ := c
  have hfs : cfs = _ := hfs
  have hta : cta = _ := hta
  have hy : cy = _ := hy
  have hle : cle = _ := hle
  subst hfs hta hy hle
  have hfl : (flg rs ys a).length = ys.length := flg_length hrs
  have hff : (flg rs ys a).map (·.1) = rs := flg_fst hrs
  have hFl := frL_length (flg rs ys a)
  have hTl : (tab 0 rs).length = ys.length + 1 := by rw [tab_length, hrs]
  refine wpAny_execs_cons ?_
  refine forL hh ?_
  refine wpAny_Call_NameR ?_
  refine ev_blt B S (v := .type "range") (by decide) (by decide +kernel) ?_
  refine ct1 ?_
  refine wpAny_Call_NameR ?_
  refine ev_blt B S (v := .builtin "len") (by decide) (by decide +kernel) ?_
  refine cb1 ?_
  refine ev_cel (x := "y") (c := L + 4) S (by walk_at "mem") rfl ?_
  refine len_ofL (by omega) fun t2 tk2 => ?_
  refine range1 S (by omega) fun r h1 tk1 t1 t2 t3 S1 => ?_
  refine iter_range S1 (.head _) (n := ys.length) (small_of' (by omega) (by omega)) (by rw [rangeSize_one]; split <;> omega) fun I h2 W S2 => ?_
  have S2 := S2.sub (.cons_cons _ (.cons _ (List.Sublist.refl _)))
  refine ⟨fun i g K' => g = h₀ ∧ ∃ m', (∀ z : Str, z ≠ "p" → m' z = m z) ∧ K' = core L m' _ ((rf, intsP (natL ((frL (flg rs ys a)).take (i + 1)))) :: K), I, _, _, _, _, h₀, _, rfl, W, (fun _ _ _ _ p hp => nomatch hp), S2, ⟨rfl, m, fun _ _ => rfl, by rw [frL_zero]⟩, ?_, ?_⟩
  · rintro i v g K' hp tk E' Qn hi ⟨tv, rfl⟩ ⟨rfl, m', hm', rfl⟩ S3 kn
    have ei : (0 : Int) + (i : Int) * 1 = ((i : Nat) : Int) := by omega
    rw [ei]
    have hg := flg_get (a := a) hrs hi
    have hgd : (flg rs ys a).getD i (false, false) = (rs.getD i false, ys.getD i 0 == a) := by rw [List.getD_eq_getElem?_getD, hg]; rfl
    have hstep := frL_step (flg rs ys a) (p := i) (by omega)
    rw [hff, hgd] at hstep
    refine go_name ?_
    refine wpAny_assign_Name ?_
    refine st_loc (env := eL x L) (x := "p") S3 (.tail .head) (fun h4 tk4 S4 => ?_)
    have hFt : ((frL (flg rs ys a)).take (i + 1)).length = i + 1 := by rw [List.length_take]; omega
    have hfi : ((frL (flg rs ys a)).take (i + 1)).getD i 0 = (frL (flg rs ys a)).getD i 0 := by
      rw [List.getD_eq_getElem?_getD, List.getElem?_take_of_lt (by omega), ← List.getD_eq_getElem?_getD]
    refine wpAny_execs_cons ?_
    refine wpAny_Expr ?_
    refine wpAny_Call_method (T := "list") (id := "list.append") rfl rfl rfl F.plainAttrs_list F.slot_list_append F.type_list_append ?_
    refine ev_cel (x := "fresh") (c := L + 10) S4 (by walk_at "mem") rfl ?_
    obtain ⟨vsf, nf, hif, hgf⟩ := S4.ints (a := rf) (xs := natL ((frL (flg rs ys a)).take (i + 1))) (.tail _ (inK (.head _)))
    refine ⟨⟨_, hgf, rfl⟩, (fun a' e' => by cases e'; exact ⟨_, hgf, rfl⟩), ?_⟩
    refine cbm1 ?_
    refine wpAny_IfExp ?_
    refine wpAny_isTrue_Compare1 ?_ rfl
    refine Subscript_ ?_
    refine ev_cel (x := "y") (c := L + 4) S4 (by walk_at "mem") rfl ?_
    refine ev_loc (x := "p") S4 (.tail _ (.head _)) (if_pos rfl) ?_
    refine sub_ofL hi (by omega) fun t5 tk5 => ?_
    refine ev_cel (x := "letter") (c := L + 7) S4 (by walk_at "mem") rfl ?_
    refine eq_str ?_
    refine wpAny_truthy_bool ?_
    rw [one_beq]
    have hsn := take_snoc (xs := frL (flg rs ys a)) (i := i + 1) (by omega)
    cases hb : (ys.getD i 0 == a)
    · refine ite_f rfl ?_
      rw [hb] at hstep
      refine wpAny_Call_NameR ?_
      refine ev_blt B S4 (v := .builtin "max") (by decide) (by decide +kernel) ?_
      refine cb2 ?_
      refine Subscript_ ?_
      refine ev_cel (x := "table") (c := L + 6) S4 (by walk_at "mem") rfl ?_
      refine wpAny_BinOp ?_
      refine ev_loc (x := "p") S4 (.tail _ (.head _)) (if_pos rfl) ?_
      refine wpAny_Constant_int ?_
      refine addn (b := 1) ?_
      refine sub_nats S4 (.tail _ (inK (.tail _ hK))) (by omega) (by omega) fun t6 => ?_
      refine Subscript_ ?_
      refine ev_cel (x := "fresh") (c := L + 10) S4 (by walk_at "mem") rfl ?_
      refine ev_loc (x := "p") S4 (.tail _ (.head _)) (if_pos rfl) ?_
      refine sub_nats S4 (.tail _ (inK (.head _))) (by omega) (by omega) fun t7 => ?_
      refine max2 S4 hh fun t8 h8 tk8 S8 => ?_
      have ez : max (((tab 0 rs).getD (i + 1) 0 : Nat) : Int) ((((frL (flg rs ys a)).take (i + 1)).getD i 0 : Nat) : Int) = ((frL (flg rs ys a)).getD (i + 1) 0 : Nat) := by
        rw [hfi, hstep, if_neg Bool.false_ne_true]; omega
      rw [ez]
      refine app_ints S8 (.tail upK) (by rw [natL_length]; omega) fun h9 S9 => ?_
      refine wpAny_execs_nil ?_
      refine kn _ _ _ _ ⟨rfl, (fun y : Str => if y = "p" then some (.int (i : Nat) tv) else m' y), fun z hz => (if_neg hz).trans (hm' z hz), by rw [hsn]; rfl⟩ S9
    · refine ite_t rfl ?_
      rw [hb, if_pos rfl] at hstep
      refine wpAny_BinOp ?_
      refine Subscript_ ?_
      refine ev_cel (x := "table") (c := L + 6) S4 (by walk_at "mem") rfl ?_
      refine ev_loc (x := "p") S4 (.tail _ (.head _)) (if_pos rfl) ?_
      refine sub_nats S4 (.tail _ (inK (.tail _ hK))) (by omega) (by omega) fun t6 => ?_
      refine wpAny_Constant_int ?_
      refine add_to ((frL (flg rs ys a)).getD (i + 1) 0 : Nat) (by rw [hstep]; rfl) ?_
      refine app_ints S4 (.tail upK) (by rw [natL_length]; omega) fun h9 S9 => ?_
      refine wpAny_execs_nil ?_
      refine kn _ _ _ _ ⟨rfl, (fun y : Str => if y = "p" then some (.int (i : Nat) tv) else m' y), fun z hz => (if_neg hz).trans (hm' z hz), by rw [hsn]; rfl⟩ S9
  · rintro g K' hp tk ⟨rfl, m', hm', rfl⟩ S6
    have e : (frL (flg rs ys a)).take (ys.length + 1) = frL (flg rs ys a) := List.take_of_length_le (by omega)
    rw [e] at S6
    exact k m' hp tk hm' S6
end
end Mine
end
/-! text D8 -/
section
open PySem PySem.W PyProof.Rows PySem.Spec PySem.Calls PySem.SeqAt
set_option maxRecDepth 100000
set_option linter.unusedVariables false
set_option maxHeartbeats 1000000
namespace Mine
theorem mod_nat (a b : Nat) : (((a : Nat) : Int) % ((b : Nat) : Int)).toNat = a % b := by rw [← Int.natCast_emod, Int.toNat_natCast]
section
variable {w : World} {A : Around} {E : Value → Shared → Prop} {s : Shared} {t u : Tok} {h₀ : Gd} {H K : Led} {env : Env} {x : FX} {L : Addr} {m : Str → Option Value} {c : CV}
/-- grown = [fresh[p] - table[p] ...] -/
theorem body_6 {l : Fl} {ys : List Nat} {rt rf : Addr} {ty : Tok} {Q : Flow → Shared → Prop} (B : Bs w h₀) (hh : A.handled = none) (S : St h₀ s.heap (core L m c K)) (hfs : c.fs = some (.ref rf)) (hta : c.ta = some (.ref rt)) (hy : c.y = some (.str (ofL ys) ty))
    (hK : (rt, intsP (natL (tab 0 (l.map (·.1))))) ∈ K) (hK2 : (rf, intsP (natL (frL l))) ∈ K) (hly : l.length = ys.length) (hl : ys.length ≤ 12)
    (k : ∀ r h' tk, St h₀ h' (core L m { c with gr := some (.ref r) } ((r, intsP (natL (carr 0 l))) :: K)) → wpAny (model pw w) A (execs (BL.drop 7) (eL x L)) Q E { s with heap := h', toks := tk }) :
    wpAny (model pw w) A (execs (BL.drop 6) (eL x L)) Q E s := by
  obtain ⟨cfr, cgr, cfs, cto, cpu, cle, cta, cro, cy, cse, cty, cun⟩ := c
  have hfs : cfs = _ := hfs
  have hta : cta = _ := hta
  have hy : cy = _ := hy
  subst hfs hta hy
  have hFl := frL_length l
  have hTl : (tab 0 (l.map (·.1))).length = ys.length + 1 := by rw [tab_length, List.length_map, hly]
  have hCl := carr_length l 0
  refine wpAny_execs_cons ?_
  refine wpAny_Assign_Name ?_
  refine lc (by rfl) hh ?_
  refine wpAny_Call_NameR ?_
  refine ev_blt B S (v := .type "range") (by decide) (by decide +kernel) ?_
  refine ct1 ?_
  refine wpAny_BinOp ?_
  refine wpAny_Call_NameR ?_
  refine ev_blt B S (v := .builtin "len") (by decide) (by decide +kernel) ?_
  refine cb1 ?_
  refine ev_cel (x := "y") (c := L + 4) S (by walk_at "mem") rfl ?_
  refine len_ofL (by omega) fun t2 tk2 => ?_
  refine wpAny_Constant_int ?_
  refine addn (b := 1) ?_
  refine range1 S (by omega) fun r h1 tk1 t1 t2 t3 S1 => ?_
  refine iter_range S1 (.head _) (n := ys.length + 1) (small_of' (by omega) (by omega)) (by rw [rangeSize_one]; split <;> omega) fun I h2 W S2 => ?_
  have S2 := S2.sub (.cons_cons _ (.cons _ (List.Sublist.refl _)))
  refine ⟨fun i vs K' => K' = core L m _ K ∧ IntsAre vs (natL ((carr 0 l).take i)), I, _, _, _, _, _, _, rfl, W, Nat.le_trans (show ys.length + 1 ≤ 13 by omega) (by decide), (fun _ _ _ _ p hp => nomatch hp), S2, ⟨rfl, .nil⟩, ?_, ?_⟩
  · rintro i v C D mC K' vs hp tk' E' Qt Qf hi ⟨tv, rfl⟩ ⟨rfl, hvs⟩ hm hvl S3 kt kf
    have ei : (0 : Int) + (i : Int) * 1 = ((i : Nat) : Int) := by omega
    rw [ei] at hm
    have hg := frL_get l (p := i) (by omega)
    refine no_tests ?_
    refine ite_t rfl ?_
    refine wpAny_BinOp ?_
    refine Subscript_ ?_
    refine ev_cel (x := "fresh") (c := L + 10) S3 (by walk_at "mem") rfl ?_
    refine ev_loc (x := "p") S3 (.head _) hm ?_
    refine sub_nats S3 (.tail _ (.tail _ (.tail _ (inK hK2)))) (by omega) (by omega) fun t6 => ?_
    refine Subscript_ ?_
    refine ev_cel (x := "table") (c := L + 6) S3 (by walk_at "mem") rfl ?_
    refine ev_loc (x := "p") S3 (.head _) hm ?_
    refine sub_nats S3 (.tail _ (.tail _ (.tail _ (inK hK)))) (by omega) (by omega) fun t7 => ?_
    refine sub_to ((carr 0 l).getD i 0 : Nat) (by omega) ?_
    refine kt _ _ _ _ ⟨rfl, ?_⟩ S3
    rw [take_snoc (by omega)]
    exact ints_snoc hvs _ _
  · rintro D vs K' hp tk' ⟨rfl, hvs⟩ S6
    rw [List.take_of_length_le (by omega)] at hvs
    have S7 : St h₀ hp ((D, intsP (natL (carr 0 l))) :: _) := S6.weak fun o ho => ⟨vs, hvs, ho⟩
    refine s_gr (toK S7) fun h2 tk2 S2 => ?_
    exact k _ _ _ S2
/-- if told != [...] + grown[-1:] -/
theorem body_7 {l : Fl} {ys : List Nat} {wd : Nat} {rp rto rg : Addr} {ty tu : Tok} {Q : Flow → Shared → Prop} (B : Bs w h₀) (hh : A.handled = none) (hu : A.units < cLine) (S : St h₀ s.heap (core L m c K)) (hto : c.to = some (.ref rto)) (hpu : c.pu = some (.ref rp)) (hgr : c.gr = some (.ref rg)) (hun : c.un = some (.int (2 ^ wd : Nat) tu)) (hy : c.y = some (.str (ofL ys) ty))
    (hK : (rto, intsP (natL (digs (2 ^ wd) 0 l))) ∈ K) (hK2 : (rp, intsP (natL (puts (2 ^ wd) l))) ∈ K) (hK3 : (rg, intsP (natL (carr 0 l))) ∈ K) (hly : l.length = ys.length) (hl : ys.length ≤ 12)
    (k : ∀ h' tk, St h₀ h' (core L m c K) → wpAny (model pw w) A (execs (BL.drop 8) (eL x L)) Q E { s with heap := h', toks := tk }) :
    wpAny (model pw w) A (execs (BL.drop 7) (eL x L)) Q E s := by
  obtain ⟨cfr, cgr, cfs, cto, cpu, cle, cta, cro, cy, cse, cty, cun⟩ := c
  have hto : cto = _ := hto
  have hpu : cpu = _ := hpu
  have hgr : cgr = _ := hgr
  have hun : cun = _ := hun
  have hy : cy = _ := hy
  subst hto hpu hgr hun hy
  have hPl : (puts (2 ^ wd) l).length = l.length := List.length_map ..
  have hCl := carr_length l 0
  have hDl := digs_length (2 ^ wd) l 0
  refine wpAny_execs_cons ?_
  refine wpAny_If ?_
  refine wpAny_isTrue_Compare1 ?_ rfl
  refine ev_cel (x := "told") (c := L + 9) S (by walk_at "mem") rfl ?_
  refine wpAny_BinOp ?_
  refine lc (by rfl) hh ?_
  refine wpAny_Call_NameR ?_
  refine ev_blt B S (v := .type "range") (by decide) (by decide +kernel) ?_
  refine ct1 ?_
  refine wpAny_Call_NameR ?_
  refine ev_blt B S (v := .builtin "len") (by decide) (by decide +kernel) ?_
  refine cb1 ?_
  refine ev_cel (x := "y") (c := L + 4) S (by walk_at "mem") rfl ?_
  refine len_ofL (by omega) fun t2 tk2 => ?_
  refine range1 S (by omega) fun r h1 tk1 t1 t2 t3 S1 => ?_
  refine iter_range S1 (.head _) (n := ys.length) (small_of' (by omega) (by omega)) (by rw [rangeSize_one]; split <;> omega) fun I h2 W S2 => ?_
  have S2 := S2.sub (.cons_cons _ (.cons _ (List.Sublist.refl _)))
  refine ⟨fun i vs K' => K' = core L m _ K ∧ IntsAre vs (natL ((digs (2 ^ wd) 0 l).take i)), I, _, _, _, _, _, _, rfl, W, Nat.le_trans hl (by decide), (fun _ _ _ _ p hp => nomatch hp), S2, ⟨rfl, .nil⟩, ?_, ?_⟩
  · rintro i v C D mC K' vs hp tk' E' Qt Qf hi ⟨tv, rfl⟩ ⟨rfl, hvs⟩ hm hvl S3 kt kf
    have ei : (0 : Int) + (i : Int) * 1 = ((i : Nat) : Int) := by omega
    rw [ei] at hm
    have hg := digs_get (2 ^ wd) l 0 i (by omega)
    refine no_tests ?_
    refine ite_t rfl ?_
    refine wpAny_BinOp ?_
    refine wpAny_BinOp ?_
    refine Subscript_ ?_
    refine ev_cel (x := "put") (c := L + 8) S3 (by walk_at "mem") rfl ?_
    refine ev_loc (x := "p") S3 (.head _) hm ?_
    refine sub_nats S3 (.tail _ (.tail _ (.tail _ (inK hK2)))) (by omega) (by omega) fun t6 => ?_
    refine Subscript_ ?_
    refine ev_cel (x := "grown") (c := L + 11) S3 (by walk_at "mem") rfl ?_
    refine ev_loc (x := "p") S3 (.head _) hm ?_
    refine sub_nats S3 (.tail _ (.tail _ (.tail _ (inK hK3)))) (by omega) (by omega) fun t7 => ?_
    refine addn ?_
    refine ev_cel (x := "unit") (c := L + 1) S3 (by walk_at "mem") rfl ?_
    refine modq (q := (digs (2 ^ wd) 0 l).getD i 0) ?_ (Nat.two_pow_pos wd) ?_
    · rw [hg]; exact mod_nat _ _
    refine kt _ _ _ _ ⟨rfl, ?_⟩ S3
    rw [take_snoc (by omega)]
    exact ints_snoc hvs _ _
  · rintro D vs K' hp tk' ⟨rfl, hvs⟩ S6
    have S7 : St h₀ hp ((D, intsP (natL ((digs (2 ^ wd) 0 l).take ys.length))) :: _) := S6.weak fun o ho => ⟨vs, hvs, ho⟩
    refine last_ints ?_
    refine ev_cel (x := "grown") (c := L + 11) S7 (by walk_at "mem") rfl ?_
    refine wpAny_UnaryOp ?_
    refine wpAny_Constant_int ?_
    refine neg_to (-1) rfl ?_
    refine ⟨h₀, _, rg, _, _, rfl, rfl, S7, .tail _ (inK hK3), by rw [natL_length]; omega, fun r3 h3 S8 => ?_⟩
    refine add_ints S8 (.tail _ (.head _)) (.head _) ?_ fun r4 h4 S9 => ?_
    · rw [natL_length, List.length_take, List.length_drop, natL_length]; omega
    refine ne_ints S9 (.tail _ (.tail _ (.tail _ (inK hK)))) (.head _) hu ?_
    have e : natL (digs (2 ^ wd) 0 l) = natL ((digs (2 ^ wd) 0 l).take ys.length) ++ (natL (carr 0 l)).drop ((natL (carr 0 l)).length - 1) := by
      rw [natL_length, hCl, Nat.add_sub_cancel, show (natL (carr 0 l)).drop l.length = natL ((carr 0 l).drop l.length) from (List.map_drop ..).symm, ← digs_top, ← natL_append, ← hly, List.take_append_drop]
    refine wpAny_truthy_bool ?_
    refine ite_f (by rw [decide_eq_true e]; rfl) ?_
    refine wpAny_execs_nil ?_
    exact k _ _ S9.drop.drop.drop
end
end Mine
end
/-! text D9 -/
section
open PySem PySem.W PyProof.Rows PySem.Spec PySem.Calls PySem.SeqAt
set_option maxRecDepth 100000
set_option linter.unusedVariables false
set_option maxHeartbeats 1000000
namespace Mine
theorem down_size (n : Nat) : Builtin.Range.rangeSize ((n : Int) - 1) (-1) (-1) = n := by
  unfold Builtin.Range.rangeSize
  rw [if_neg (by decide)]
  rcases Nat.eq_zero_or_pos n with h | h
  · subst h; decide
  · rw [if_pos (by omega), show (-(-1 : Int)) = 1 from rfl, Int.ediv_one]; omega
theorem down_small {n : Nat} (hn : n ≤ 12) : Builtin.Range.small ((n : Int) - 1) (-1) (-1) = true := by
  have : ∀ n ≤ 12, Builtin.Range.small (((n : Nat) : Int) - 1) (-1) (-1) = true := by decide
  exact this n hn
theorem curAt_small (l : Fl) (P : Nat) (hP : P ≤ l.length) : (curAt l P).length ≤ l.length := by
  unfold curAt
  rw [← (newN_eq _ _).1, List.length_append]
  have h1 := rowOf_length_le ((l.map (·.1)).take P) 0
  have h2 := rowOf_length_le (newR 0 (l.drop P)) P
  rw [List.length_take, List.length_map] at h1
  rw [newR_length, List.length_drop] at h2
  omega
section
variable {w : World} {A : Around} {E : Value → Shared → Prop} {s : Shared} {t u : Tok} {h₀ : Gd} {H K : Led} {env : Env} {x : FX} {L : Addr} {m : Str → Option Value} {c : CV}
theorem eq_str1 {a b : Nat} {Q : Value → Shared → Prop} (h : Q (.bool (a == b)) s) : wpAny (model pw w) A (compareOp .Eq (.str ⟨#[a]⟩ t) (.str ⟨#[b]⟩ u)) Q E s :=
  eq_str (by rw [one_beq]; exact h)
theorem body_8 {rf : Addr} {Q : Flow → Shared → Prop} (S : St h₀ s.heap (core L m c K)) (hfs : c.fs = some (.ref rf))
    (k : ∀ h' tk, St h₀ h' (core L m { c with ta := some (.ref rf) } K) → wpAny (model pw w) A (execs (BL.drop 9) (eL x L)) Q E { s with heap := h', toks := tk }) :
    wpAny (model pw w) A (execs (BL.drop 8) (eL x L)) Q E s := by
  obtain ⟨cfr, cgr, cfs, cto, cpu, cle, cta, cro, cy, cse, cty, cun⟩ := c
  have hfs : cfs = _ := hfs
  subst hfs
  refine wpAny_execs_cons ?_
  refine wpAny_Assign_Name ?_
  refine ev_cel (x := "fresh") (c := L + 10) S (by walk_at "mem") rfl ?_
  refine s_ta S fun h2 tk2 S2 => ?_
  exact k _ _ S2
theorem body_9 {rr : Addr} {row : List Nat} {Q : Flow → Shared → Prop} (B : Bs w h₀) (S : St h₀ s.heap (core L m c K)) (hro : c.ro = some (.ref rr)) (hK : (rr, intsP (natL row)) ∈ K) (hl : row.length ≤ 12)
    (k : ∀ t h' tk, St h₀ h' (core L (up m "spot" (.int (row.length : Nat) t)) c K) → wpAny (model pw w) A (execs (BL.drop 10) (eL x L)) Q E { s with heap := h', toks := tk }) :
    wpAny (model pw w) A (execs (BL.drop 9) (eL x L)) Q E s := by
  obtain ⟨cfr, cgr, cfs, cto, cpu, cle, cta, cro, cy, cse, cty, cun⟩ := c
  have hro : cro = _ := hro
  subst hro
  refine wpAny_execs_cons ?_
  refine wpAny_Assign_Name ?_
  refine wpAny_Call_NameR ?_
  refine ev_blt B S (v := .builtin "len") (by decide) (by decide +kernel) ?_
  refine cb1 ?_
  refine ev_cel (x := "row") (c := L + 5) S (by walk_at "mem") rfl ?_
  refine len_ints S (inK hK) (by rw [natL_length]; omega) fun t3 tk3 => ?_
  rw [natL_length]
  refine sl S fun h2 tk2 S2 => ?_
  exact k _ _ _ S2
noncomputable def BL10 : List Stmt := match BL.getD 10 (.Pass ⟨0, 0, 0, 0⟩) with
  | .For _ _ b _ _ => b
  | _ => []
theorem turn_10 {l : Fl} {ys : List Nat} {a P spot : Nat} {rr I : Addr} {pI : PO} {pos : Pos} {tv ts ty tl : Tok} {m' : Str → Option Value} {Qn : Flow → Shared → Prop} {E' : Value → Shared → Prop} (B : Bs w h₀) (hA : A.depth < 700) (hly : l.length = ys.length) (hl : ys.length ≤ 12) (hPl : P < l.length) (hmP : (l[P]).2 = (ys.getD P 0 == a))
    (S3 : St h₀ s.heap ((I, pI) :: core L m' c ((rr, intsP (natL (curAt l (P + 1)))) :: K))) (hro : c.ro = some (.ref rr)) (hy : c.y = some (.str (ofL ys) ty)) (hle : c.le = some (.str ⟨#[a]⟩ tl)) (hsp : m' "spot" = some (.int ((spot : Nat) : Int) ts)) (hj : jAt l (P + 1) ≤ spot) (hs : spot ≤ (curAt l (P + 1)).length)
    (kn : ∀ (m2 : Str → Option Value) (spot2 : Nat) (ts2 : Tok) (h9 : Heap) (tk9 : Nat), m2 "spot" = some (.int ((spot2 : Nat) : Int) ts2) → (∀ z : Str, z ≠ "p" → z ≠ "spot" → m2 z = m' z) → jAt l P ≤ spot2 → spot2 ≤ (curAt l P).length → St h₀ h9 ((I, pI) :: core L m2 c ((rr, intsP (natL (curAt l P))) :: K)) → Qn .next { s with heap := h9, toks := tk9 }) :
    wpAny (model pw w) A (assign (.Name "p" pos) (eL x L) (.int (P : Nat) tv)) (fun _ s₃ => wpAny (model pw w) A (execs BL10 (eL x L)) Qn E' s₃) E' s := by
  obtain ⟨cfr, cgr, cfs, cto, cpu, cle, cta, cro, cy, cse, cty, cun⟩ := c
  have hro : cro = _ := hro
  have hy : cy = _ := hy
  have hle : cle = _ := hle
  subst hro hy hle
  have hmono := jAt_mono l P hPl
  have hlen := curAt_len l P hPl
  have h13 := curAt_small l (P + 1) (by omega)
  refine wpAny_assign_Name ?_
  refine st_loc (env := eL x L) (x := "p") S3 (.tail .head) (fun h4 tk4 S4 => ?_)
  refine wpAny_execs_cons ?_
  refine wpAny_If ?_
  refine wpAny_isTrue_Compare1 ?_ rfl
  refine Subscript_ ?_
  refine ev_cel (x := "y") (c := L + 4) S4 (by walk_at "mem") rfl ?_
  refine ev_loc (x := "p") S4 (.tail _ (.head _)) (if_pos rfl) ?_
  refine sub_ofL (by omega) (by omega) fun t5 tk5 => ?_
  refine ev_cel (x := "letter") (c := L + 7) S4 (by walk_at "mem") rfl ?_
  refine eq_str1 ?_
  refine wpAny_truthy_bool ?_
  cases hb' : (ys.getD P 0 == a)
  · have hb : (l[P]).2 = false := hmP.trans hb'
    refine ite_f rfl ?_
    refine wpAny_execs_nil ?_
    refine wpAny_execs_nil ?_
    have hk := curAt_keep l P hPl hb
    rw [← hk] at S4
    exact kn (fun y : Str => if y = "p" then some (.int (P : Nat) tv) else m' y) spot ts _ _ ((if_neg (by decide)).trans hsp) (fun z h1 h2 => if_neg h1) (by omega) (by omega) S4
  · have hb : (l[P]).2 = true := hmP.trans hb'
    refine ite_t rfl ?_
    have hcn := curAt_count l P hPl
    have hset := curAt_set l P hPl hb
    have hpush := curAt_push l P hPl hb
    have hres : max 0 (min spot (cntLt (natL (curAt l (P + 1))) ((P : Nat) : Int))) = jAt l P := by
      rw [cntLt_nat, hcn]; omega
    -- spot = bisect_left(row, p, 0, spot)
    refine wpAny_execs_cons ?_
    refine wpAny_Assign_Name ?_
    refine wpAny_Call_NameR ?_
    refine ev_glo (v := .ref 37) B S4 (by decide) ?_
    refine cf4 (Bs.fn B.f37) ?_
    refine ev_cel (x := "row") (c := L + 5) S4 (by walk_at "mem") rfl ?_
    refine ev_loc (x := "p") S4 (.tail _ (.head _)) (if_pos rfl) ?_
    refine wpAny_Constant_int ?_
    refine ev_loc (x := "spot") S4 (.tail _ (.head _)) ((if_neg (by decide)).trans hsp) ?_
    refine ⟨S4.keep, ?_⟩
    refine c_bis4 (lo := 0) (hi := spot) (xs := natL (curAt l (P + 1))) B S4 (by omega) (.tail _ (inK (.head _))) (natL_sorted (curAt_sorted l (P + 1))) (Nat.zero_le _) (by rw [natL_length]; exact hs) (by rw [natL_length]; omega) fun t6 h6 tk6 S6 => ?_
    rw [hres]
    refine st_loc (env := eL x L) (x := "spot") S6 (.tail .head) (fun h7 tk7 S7 => ?_)
    refine wpAny_execs_cons ?_
    refine wpAny_If ?_
    refine wpAny_isTrue_Compare1 ?_ rfl
    refine ev_loc (x := "spot") S7 (.tail _ (.head _)) (if_pos rfl) ?_
    refine wpAny_Call_NameR ?_
    refine ev_blt B S7 (v := .builtin "len") (by decide) (by decide +kernel) ?_
    refine cb1 ?_
    refine ev_cel (x := "row") (c := L + 5) S7 (by walk_at "mem") rfl ?_
    refine len_ints S7 (.tail _ (inK (.head _))) (by rw [natL_length]; omega) fun t8 tk8 => ?_
    rw [natL_length]
    refine eqn_to ?_
    refine wpAny_truthy_bool ?_
    by_cases hj2 : jAt l P = (curAt l (P + 1)).length
    · refine ite_t (decide_eq_true hj2) ?_
      refine wpAny_execs_cons ?_
      refine wpAny_Expr ?_
      refine wpAny_Call_method (T := "list") (id := "list.append") rfl rfl rfl F.plainAttrs_list F.slot_list_append F.type_list_append ?_
      refine ev_cel (x := "row") (c := L + 5) S7 (by walk_at "mem") rfl ?_
      obtain ⟨vsf, nf, hif, hgf⟩ := S7.ints (a := rr) (xs := natL (curAt l (P + 1))) (.tail _ (inK (.head _)))
      refine ⟨⟨_, hgf, rfl⟩, (fun a' e' => by cases e'; exact ⟨_, hgf, rfl⟩), ?_⟩
      refine cbm1 ?_
      refine ev_loc (x := "p") S7 (.tail _ (.head _)) ((if_neg (by decide)).trans (if_pos rfl)) ?_
      refine app_ints S7 (.tail upK) (by rw [natL_length]; omega) fun h9 S9 => ?_
      refine wpAny_execs_nil ?_
      refine wpAny_execs_nil ?_
      refine wpAny_execs_nil ?_
      have e9 : natL (curAt l (P + 1)) ++ [((P : Nat) : Int)] = natL (curAt l P) := by rw [hpush hj2, natL_append]; rfl
      rw [e9] at S9
      exact kn (fun y : Str => if y = "spot" then some (.int (jAt l P : Nat) t6) else if y = "p" then some (.int (P : Nat) tv) else m' y) (jAt l P) t6 _ _ (if_pos rfl) (fun z h1 h2 => (if_neg h2).trans (if_neg h1)) (Nat.le_refl _) (jAt_le _ _) S9
    · refine ite_f (decide_eq_false hj2) ?_
      obtain ⟨hlt, hse⟩ := hset hj2
      refine wpAny_execs_cons ?_
      refine wpAny_Assign_Subscript ?_
      refine ev_loc (x := "p") S7 (.tail _ (.head _)) ((if_neg (by decide)).trans (if_pos rfl)) ?_
      refine ev_cel (x := "row") (c := L + 5) S7 (by walk_at "mem") rfl ?_
      refine ev_loc (x := "spot") S7 (.tail _ (.head _)) (if_pos rfl) ?_
      refine set_ints S7 (.tail upK) (by omega) (by rw [natL_length]; omega) (by omega) fun h9 S9 => ?_
      refine wpAny_execs_nil ?_
      refine wpAny_execs_nil ?_
      refine wpAny_execs_nil ?_
      have e9 : (natL (curAt l (P + 1))).set (((jAt l P : Nat) : Int)).toNat ((P : Nat) : Int) = natL (curAt l P) := by
        rw [hse, Int.toNat_natCast, natL, natL, List.map_set]; rfl
      rw [e9] at S9
      exact kn (fun y : Str => if y = "spot" then some (.int (jAt l P : Nat) t6) else if y = "p" then some (.int (P : Nat) tv) else m' y) (jAt l P) t6 _ _ (if_pos rfl) (fun z h1 h2 => (if_neg h2).trans (if_neg h1)) (Nat.le_refl _) (jAt_le _ _) S9
theorem body_10 {l : Fl} {ys : List Nat} {a : Nat} {rr : Addr} {ts ty tl : Tok} {Q : Flow → Shared → Prop} (B : Bs w h₀) (hh : A.handled = none) (hA : A.depth < 700) (hly : l.length = ys.length) (hl : ys.length ≤ 12) (hlm : ∀ p, p < l.length → (l.getD p (false, false)).2 = (ys.getD p 0 == a))
    (S : St h₀ s.heap (core L m c ((rr, intsP (natL (curAt l l.length))) :: K))) (hro : c.ro = some (.ref rr)) (hy : c.y = some (.str (ofL ys) ty)) (hle : c.le = some (.str ⟨#[a]⟩ tl)) (hm : m "spot" = some (.int (curAt l l.length).length ts))
    (k : ∀ m' h' tk, (∀ z : Str, z ≠ "p" → z ≠ "spot" → m' z = m z) → St h₀ h' (core L m' c ((rr, intsP (natL (curAt l 0))) :: K)) → wpAny (model pw w) A (execs (BL.drop 11) (eL x L)) Q E { s with heap := h', toks := tk }) :
    wpAny (model pw w) A (execs (BL.drop 10) (eL x L)) Q E s := by
  obtain ⟨cfr, cgr, cfs, cto, cpu, cle, cta, cro, cy, cse, cty, cun⟩ := c
  have hro : cro = _ := hro
  have hy : cy = _ := hy
  have hle : cle = _ := hle
  subst hro hy hle
  refine wpAny_execs_cons ?_
  refine forL hh ?_
  refine wpAny_Call_NameR ?_
  refine ev_blt B S (v := .type "range") (by decide) (by decide +kernel) ?_
  refine ct3 ?_
  refine wpAny_BinOp ?_
  refine wpAny_Call_NameR ?_
  refine ev_blt B S (v := .builtin "len") (by decide) (by decide +kernel) ?_
  refine cb1 ?_
  refine ev_cel (x := "y") (c := L + 4) S (by walk_at "mem") rfl ?_
  refine len_ofL (by omega) fun t2 tk2 => ?_
  refine wpAny_Constant_int ?_
  refine sub_to ((ys.length : Int) - 1) rfl ?_
  refine wpAny_UnaryOp ?_
  refine wpAny_Constant_int ?_
  refine neg_to (-1) rfl ?_
  refine wpAny_UnaryOp ?_
  refine wpAny_Constant_int ?_
  refine neg_to (-1) rfl ?_
  refine range3 S (by decide) (by decide) fun r h1 tk1 t1 t2 t3 S1 => ?_
  refine iter_range S1 (.head _) (n := ys.length) (down_small hl) (down_size _) fun I h2 W S2 => ?_
  have S2 := S2.sub (.cons_cons _ (.cons _ (List.Sublist.refl _)))
  refine ⟨fun i g K' => g = h₀ ∧ ∃ m' spot ts, m' "spot" = some (.int ((spot : Nat) : Int) ts) ∧ (∀ z : Str, z ≠ "p" → z ≠ "spot" → m' z = m z) ∧ jAt l (l.length - i) ≤ spot ∧ spot ≤ (curAt l (l.length - i)).length ∧ K' = core L m' _ ((rr, intsP (natL (curAt l (l.length - i)))) :: K), I, _, _, _, _, h₀, _, rfl, W, (fun _ _ _ _ p hp => nomatch hp), S2, ⟨rfl, m, _, ts, hm, fun _ _ _ => rfl, jAt_le _ _, Nat.le_refl _, rfl⟩, ?_, ?_⟩
  · rintro i v g K' hp tk E' Qn hi ⟨tv, rfl⟩ ⟨rfl, m', spot, ts', hsp, hm', hj, hs, rfl⟩ S3 kn
    have hP : l.length - i = (l.length - 1 - i) + 1 := by omega
    have hP2 : l.length - (i + 1) = l.length - 1 - i := by omega
    have ei : (ys.length : Int) - 1 + (i : Int) * (-1) = ((l.length - 1 - i : Nat) : Int) := by omega
    rw [ei]
    rw [hP] at hj hs S3
    dsimp only at kn
    rw [hP2] at kn
    have hPl : l.length - 1 - i < l.length := by omega
    generalize l.length - 1 - i = P at hj hs S3 kn hPl ⊢
    have hmP := hlm P hPl
    have hgP : l.getD P (false, false) = l[P] := by rw [List.getD_eq_getElem?_getD, List.getElem?_eq_getElem hPl]; rfl
    rw [hgP] at hmP
    refine go_name ?_
    refine turn_10 (l := l) (P := P) (spot := spot) (ts := ts') B hA hly hl hPl hmP S3 rfl rfl rfl hsp hj hs fun m2 spot2 ts2 h9 tk9 e1 e2 e3 e4 S9 => ?_
    exact kn _ _ _ _ ⟨rfl, m2, spot2, ts2, e1, fun z h1 h2 => (e2 z h1 h2).trans (hm' z h1 h2), e3, e4, rfl⟩ S9
  · rintro g K' hp tk ⟨rfl, m', spot, ts', hsp, hm', hj, hs, rfl⟩ S6
    rw [show l.length - ys.length = 0 by omega] at S6
    exact k m' hp tk hm' S6
end
end Mine
end
/-! text D10 -/
section
open PySem PySem.W PyProof.Rows PySem.Spec PySem.Calls PySem.SeqAt
set_option maxRecDepth 100000
set_option linter.unusedVariables false
set_option maxHeartbeats 1000000
namespace Mine
section
variable {w : World} {A : Around} {E : Value → Shared → Prop} {s : Shared} {t u : Tok} {h₀ : Gd} {H K : Led} {env : Env} {x : FX} {L : Addr} {m : Str → Option Value} {c : CV}
noncomputable def keptB (U : Nat) (l : Fl) (p : Nat) : Bool := (puts U l).getD p 0 % U == 0 && (digs U 0 l).getD p 0 == 0
theorem body_11 {l : Fl} {ys : List Nat} {wd : Nat} {rp rto rr : Addr} {ty tu : Tok} {Q : Flow → Shared → Prop} (B : Bs w h₀) (hh : A.handled = none) (hu : A.units < cLine) (S : St h₀ s.heap (core L m c K)) (hto : c.to = some (.ref rto)) (hpu : c.pu = some (.ref rp)) (hro : c.ro = some (.ref rr)) (hun : c.un = some (.int (2 ^ wd : Nat) tu)) (hy : c.y = some (.str (ofL ys) ty))
    (hK : (rto, intsP (natL (digs (2 ^ wd) 0 l))) ∈ K) (hK2 : (rp, intsP (natL (puts (2 ^ wd) l))) ∈ K) (hK3 : (rr, intsP (natL (rowOf 0 (newR 0 l)))) ∈ K) (hly : l.length = ys.length) (hl : ys.length ≤ 12) (hw : 0 < wd)
    (k : ∀ h' tk, St h₀ h' (core L m c K) → Q .next { s with heap := h', toks := tk }) :
    wpAny (model pw w) A (execs (BL.drop 11) (eL x L)) Q E s := by
  obtain ⟨cfr, cgr, cfs, cto, cpu, cle, cta, cro, cy, cse, cty, cun⟩ := c
  have hto : cto = _ := hto
  have hpu : cpu = _ := hpu
  have hro : cro = _ := hro
  have hun : cun = _ := hun
  have hy : cy = _ := hy
  subst hto hpu hro hun hy
  have hPl : (puts (2 ^ wd) l).length = l.length := List.length_map ..
  have hDl := digs_length (2 ^ wd) l 0
  have hU := two_le hw
  refine wpAny_execs_cons ?_
  refine wpAny_If ?_
  refine wpAny_isTrue_Compare1 ?_ rfl
  refine ev_cel (x := "row") (c := L + 5) S (by walk_at "mem") rfl ?_
  refine lc (by rfl) hh ?_
  refine wpAny_Call_NameR ?_
  refine ev_blt B S (v := .type "range") (by decide) (by decide +kernel) ?_
  refine ct1 ?_
  refine wpAny_Call_NameR ?_
  refine ev_blt B S (v := .builtin "len") (by decide) (by decide +kernel) ?_
  refine cb1 ?_
  refine ev_cel (x := "y") (c := L + 4) S (by walk_at "mem") rfl ?_
  refine len_ofL (by omega) fun t2 tk2 => ?_
  refine range1 S (by omega) fun r h1 tk1 t1 t2 t3 S1 => ?_
  refine iter_range S1 (.head _) (n := ys.length) (small_of' (by omega) (by omega)) (by rw [rangeSize_one]; split <;> omega) fun I h2 W S2 => ?_
  have S2 := S2.sub (.cons_cons _ (.cons _ (List.Sublist.refl _)))
  refine ⟨fun i vs K' => K' = core L m _ K ∧ IntsAre vs (natL ((List.range i).filter (keptB (2 ^ wd) l))), I, _, _, _, _, _, _, rfl, W, Nat.le_trans hl (by decide), (fun _ _ _ _ p hp => nomatch hp), S2, ⟨rfl, .nil⟩, ?_, ?_⟩
  · rintro i v C D mC K' vs hp tk' E' Qt Qf hi ⟨tv, rfl⟩ ⟨rfl, hvs⟩ hm hvl S3 kt kf
    have ei : (0 : Int) + (i : Int) * 1 = ((i : Nat) : Int) := by omega
    rw [ei] at hm
    have hrg : (List.range (i + 1)).filter (keptB (2 ^ wd) l) = (List.range i).filter (keptB (2 ^ wd) l) ++ [i].filter (keptB (2 ^ wd) l) := by rw [List.range_succ, List.filter_append]
    refine one_test ?_
    refine wpAny_isTrue_BoolOp ?_
    refine wpAny_allTrue_And_cons ?_
    refine wpAny_isTrue_Compare1 ?_ rfl
    refine wpAny_BinOp ?_
    refine Subscript_ ?_
    refine ev_cel (x := "put") (c := L + 8) S3 (by walk_at "mem") rfl ?_
    refine ev_loc (x := "p") S3 (.head _) hm ?_
    refine sub_nats S3 (.tail _ (.tail _ (.tail _ (inK hK2)))) (by omega) (by omega) fun t6 => ?_
    refine ev_cel (x := "unit") (c := L + 1) S3 (by walk_at "mem") rfl ?_
    refine modq (q := (puts (2 ^ wd) l).getD i 0 % 2 ^ wd) (mod_nat _ _) (Nat.two_pow_pos wd) ?_
    refine wpAny_Constant_int ?_
    refine eqn_to (b := 0) ?_
    refine wpAny_truthy_bool ?_
    by_cases hp1 : (puts (2 ^ wd) l).getD i 0 % 2 ^ wd = 0
    · refine ite_t (decide_eq_true hp1) ?_
      refine wpAny_allTrue_And_cons ?_
      refine wpAny_isTrue_Compare1 ?_ rfl
      refine Subscript_ ?_
      refine ev_cel (x := "told") (c := L + 9) S3 (by walk_at "mem") rfl ?_
      refine ev_loc (x := "p") S3 (.head _) hm ?_
      refine sub_nats S3 (.tail _ (.tail _ (.tail _ (inK hK)))) (by omega) (by omega) fun t7 => ?_
      refine wpAny_Constant_int ?_
      refine eqn_to (b := 0) ?_
      refine wpAny_truthy_bool ?_
      by_cases hp2 : (digs (2 ^ wd) 0 l).getD i 0 = 0
      · refine ite_t (decide_eq_true hp2) ?_
        refine wpAny_allTrue_And_nil ?_
        refine ite_t rfl ?_
        refine ev_loc (x := "p") S3 (.head _) hm ?_
        refine kt _ _ _ _ ⟨rfl, ?_⟩ S3
        have e : [i].filter (keptB (2 ^ wd) l) = [i] := by
          have q : keptB (2 ^ wd) l i = true := by unfold keptB; rw [hp1, hp2]; rfl
          rw [List.filter_cons_of_pos q]; rfl
        rw [hrg, e, natL_append]
        exact ints_snoc hvs _ _
      · refine ite_f (decide_eq_false hp2) ?_
        refine ite_f rfl ?_
        refine kf _ _ _ ⟨rfl, ?_⟩ S3
        have e : [i].filter (keptB (2 ^ wd) l) = [] := by
          have q : ¬ keptB (2 ^ wd) l i = true := by unfold keptB; rw [Bool.and_eq_true, beq_iff_eq, beq_iff_eq]; exact fun h => hp2 h.2
          rw [List.filter_cons_of_neg q]; rfl
        rw [hrg, e, List.append_nil]
        exact hvs
    · refine ite_f (decide_eq_false hp1) ?_
      refine ite_f rfl ?_
      refine kf _ _ _ ⟨rfl, ?_⟩ S3
      have e : [i].filter (keptB (2 ^ wd) l) = [] := by
        have q : ¬ keptB (2 ^ wd) l i = true := by unfold keptB; rw [Bool.and_eq_true, beq_iff_eq, beq_iff_eq]; exact fun h => hp1 h.1
        rw [List.filter_cons_of_neg q]; rfl
      rw [hrg, e, List.append_nil]
      exact hvs
  · rintro D vs K' hp tk' ⟨rfl, hvs⟩ S6
    have S7 : St h₀ hp ((D, intsP (natL ((List.range ys.length).filter (keptB (2 ^ wd) l)))) :: _) := S6.weak fun o ho => ⟨vs, hvs, ho⟩
    refine ne_ints S7 (.tail _ (inK hK3)) (.head _) hu ?_
    have e : natL (rowOf 0 (newR 0 l)) = natL ((List.range ys.length).filter (keptB (2 ^ wd) l)) := by rw [kept_range hU l, hly]; rfl
    refine wpAny_truthy_bool ?_
    refine ite_f (by rw [decide_eq_true e]; rfl) ?_
    refine wpAny_execs_nil ?_
    refine wpAny_execs_nil ?_
    exact k _ _ S7.drop
end
end Mine
end
/-! text D11 -/
section
open PySem PySem.W PyProof.Rows PySem.Spec PySem.Calls PySem.SeqAt
set_option maxRecDepth 100000
set_option linter.unusedVariables false
set_option maxHeartbeats 1000000
namespace Mine
section
variable {w : World} {A : Around} {E : Value → Shared → Prop} {s : Shared} {t u : Tok} {h₀ : Gd} {H K : Led} {env : Env} {x : FX} {L : Addr} {m : Str → Option Value} {c : CV}
theorem permK {h : Heap} {K K' : Led} (S : St h₀ h (core L m c K)) (p : K.Perm K') : St h₀ h (core L m c K') :=
  S.perm (List.Perm.append_left [(L, nsP m), (L + 12, cellP c.fr), (L + 11, cellP c.gr), (L + 10, cellP c.fs), (L + 9, cellP c.to), (L + 8, cellP c.pu), (L + 7, cellP c.le), (L + 6, cellP c.ta), (L + 5, cellP c.ro), (L + 4, cellP c.y), (L + 3, cellP c.se), (L + 2, cellP c.ty), (L + 1, cellP c.un)] p)
theorem subK {h : Heap} {K K' : Led} (S : St h₀ h (core L m c K)) (p : List.Sublist K' K) : St h₀ h (core L m c K') :=
  S.sub (List.Sublist.append_left p [(L, nsP m), (L + 12, cellP c.fr), (L + 11, cellP c.gr), (L + 10, cellP c.fs), (L + 9, cellP c.to), (L + 8, cellP c.pu), (L + 7, cellP c.le), (L + 6, cellP c.ta), (L + 5, cellP c.ro), (L + 4, cellP c.y), (L + 3, cellP c.se), (L + 2, cellP c.ty), (L + 1, cellP c.un)])
theorem flg_snd {rs : List Bool} {ys : List Nat} {a : Nat} (h : rs.length = ys.length) (p : Nat) (hp : p < (flg rs ys a).length) : ((flg rs ys a).getD p (false, false)).2 = (ys.getD p 0 == a) := by
  rw [flg_length h] at hp
  rw [List.getD_eq_getElem?_getD, flg_get h hp]; rfl
/-- one letter -/
theorem letter_turn {rs : List Bool} {ys : List Nat} {a wd : Nat} {rr rt : Addr} {ty tl tu tw : Tok} {Q : Flow → Shared → Prop} (B : Bs w h₀) (hh : A.handled = none) (hu : A.units < cLine) (hA : A.depth < 700) (hrs : rs.length = ys.length) (hl : ys.length ≤ 12) (hw : 0 < wd) (hw2 : wd ≤ 1400)
    (S : St h₀ s.heap (core L m c ((rr, intsP (natL (rowOf 0 rs))) :: (rt, intsP (natL (tab 0 rs))) :: K))) (hy : c.y = some (.str (ofL ys) ty)) (hle : c.le = some (.str ⟨#[a]⟩ tl)) (hun : c.un = some (.int (2 ^ wd : Nat) tu)) (hro : c.ro = some (.ref rr)) (hta : c.ta = some (.ref rt)) (hm : m "width" = some (.int wd tw))
    (k : ∀ g rf m' c' h' tk, g.base = h₀.base → (∀ z : Str, z ≠ "p" → z ≠ "spot" → m' z = m z) → c'.y = c.y → c'.un = c.un → c'.ro = some (.ref rr) → c'.ta = some (.ref rf) → c'.ty = c.ty → c'.se = c.se →
      St g h' (core L m' c' ((rr, intsP (natL (rowOf 0 (newR 0 (flg rs ys a))))) :: (rf, intsP (natL (frL (flg rs ys a)))) :: K)) → Q .next { s with heap := h', toks := tk }) :
    wpAny (model pw w) A (execs BL (eL x L)) Q E s := by
  have hfl : (flg rs ys a).length = ys.length := flg_length hrs
  have hff : (flg rs ys a).map (·.1) = rs := flg_fst hrs
  have hll : (flg rs ys a).length ≤ 12 := by omega
  refine body_0 B hh S hy hle hun hro (.head _) hrs hl hw fun rp h1 tk1 S1 => ?_
  refine body_1 B hA S1 rfl (.head _) hm hll hw hw2 fun g r1 h2 tk2 hg S2 => ?_
  have B2 : Bs w g := by show Bs0 w g.base; rw [hg]; exact B
  refine body_2 hu S2 rfl (.head _) hll hw fun h3 tk3 S3 => ?_
  refine body_3 B2 S3 rfl (.head _) hy hfl hl hw fun rto h4 tk4 S4 => ?_
  refine body_4 S4 fun rf h5 tk5 S5 => ?_
  refine body_5 B2 hh S5 rfl hta hy hle (.tail _ (.tail _ (.tail _ (.tail _ (.head _))))) hrs hl fun m6 h6 tk6 hm6 S6 => ?_
  refine body_6 (l := flg rs ys a) B2 hh S6 rfl hta hy (by rw [hff]; exact .tail _ (.tail _ (.tail _ (.tail _ (.tail _ (.head _)))))) (.head _) hfl hl fun rg h7 tk7 S7 => ?_
  refine body_7 B2 hh hu S7 rfl rfl rfl hun hy (.tail _ (.tail _ (.head _))) (.tail _ (.tail _ (.tail _ (.tail _ (.head _))))) (.head _) hfl hl fun h8 tk8 S8 => ?_
  refine body_8 S8 rfl fun h9 tk9 S9 => ?_
  have hrl := rowOf_length_le rs 0
  refine body_9 (row := rowOf 0 rs) B2 S9 hro (.tail _ (.tail _ (.tail _ (.tail _ (.tail _ (.head _)))))) (by omega) fun t10 h10 tk10 S10 => ?_
  have S10 := permK S10 (List.perm_middle (l₁ := [(rg, _), (rf, _), (rto, _), (r1, _), (rp, _)]))
  have hct := curAt_top (flg rs ys a)
  rw [hff] at hct
  rw [← hct] at S10
  refine body_10 (l := flg rs ys a) (ts := t10) B2 hh hA hfl hl (flg_snd hrs) S10 hro hy hle (by rw [hct]; exact if_pos rfl) fun m11 h11 tk11 hm11 S11 => ?_
  rw [curAt_zero] at S11
  refine body_11 (rr := rr) (rto := rto) (rp := rp) B2 hh hu S11 rfl rfl hro hun hy (.tail _ (.tail _ (.tail _ (.head _)))) (.tail _ (.tail _ (.tail _ (.tail _ (.tail _ (.head _)))))) (.head _) hfl hl hw fun h12 tk12 S12 => ?_
  have S13 := subK S12 (K' := (rr, intsP (natL (rowOf 0 (newR 0 (flg rs ys a))))) :: (rf, intsP (natL (frL (flg rs ys a)))) :: K) (.cons_cons _ (.cons _ (.cons_cons _ (.cons _ (.cons _ (.cons _ (.cons _ (List.Sublist.refl _))))))))
  refine k g rf m11 _ h12 tk12 hg (fun z h1 h2 => (hm11 z h1 h2).trans ((if_neg h2).trans (hm6 z h1))) ?_ ?_ ?_ ?_ ?_ ?_ S13
  all_goals first | rfl | assumption
end
end Mine
end
/-! text D12 -/
section
open PySem PySem.W PyProof.Rows PySem.Spec PySem.Calls PySem.SeqAt
set_option maxRecDepth 100000
set_option linter.unusedVariables false
set_option maxHeartbeats 1000000
namespace Mine
theorem tab_false : ∀ n t, tab t (List.replicate n false) = List.replicate (n + 1) t
  | 0, t => rfl
  | n + 1, t => by rw [List.replicate_succ, tab, show t + b2 false = t from rfl, tab_false n t, ← List.replicate_succ]
theorem rowOf_false : ∀ n p, rowOf p (List.replicate n false) = []
  | 0, p => rfl
  | n + 1, p => by rw [List.replicate_succ, rowOf]; simpa using rowOf_false n (p + 1)
section
variable {w : World} {A : Around} {E : Value → Shared → Prop} {s : Shared} {t u : Tok} {h₀ : Gd} {H K : Led} {env : Env} {x : FX} {L : Addr} {m : Str → Option Value} {c : CV}
theorem law_12 {xs ys : List Nat} {wd : Nat} {rr rt : Addr} {tx ty tu tw : Tok} {Q : Flow → Shared → Prop} (B : Bs w h₀) (hh : A.handled = none) (hu : A.units < cLine) (hA : A.depth < 700) (hl : ys.length ≤ 12) (hw : 0 < wd) (hw2 : wd ≤ 1400)
    (S : St h₀ s.heap (core L m c ((rt, intsP (natL (List.replicate (ys.length + 1) 0))) :: (rr, intsP (natL [])) :: K))) (hy : c.y = some (.str (ofL ys) ty)) (hun : c.un = some (.int (2 ^ wd : Nat) tu)) (hro : c.ro = some (.ref rr)) (hta : c.ta = some (.ref rt)) (hm : m "width" = some (.int wd tw)) (hmx : m "x" = some (.str (ofL xs) tx))
    (k : ∀ g rs rt' m' c' h' tk, g.base = h₀.base → rs.length = ys.length → (∀ z : Str, z ≠ "p" → z ≠ "spot" → m' z = m z) → c'.y = c.y → c'.ro = some (.ref rr) → c'.ta = some (.ref rt') → c'.ty = c.ty → c'.se = c.se →
      St g h' (core L m' c' ((rr, intsP (natL (rowOf 0 rs))) :: (rt', intsP (natL (tab 0 rs))) :: K)) → wpAny (model pw w) A (execs (B13.drop 13) (eL x L)) Q E { s with heap := h', toks := tk }) :
    wpAny (model pw w) A (execs (B13.drop 12) (eL x L)) Q E s := by
  refine wpAny_execs_cons ?_
  refine forL hh ?_
  refine ev_loc (x := "x") S (.head _) hmx ?_
  have S0 := permK S (.swap ..)
  refine iter_str S0 fun I h2 ip W S2 => ?_
  refine ⟨fun i g K' => g.base = h₀.base ∧ ∃ rs rt' m' c', rs.length = ys.length ∧ (∀ z : Str, z ≠ "p" → z ≠ "spot" → m' z = m z) ∧ c'.y = c.y ∧ c'.un = c.un ∧ c'.ro = some (.ref rr) ∧ c'.ta = some (.ref rt') ∧ c'.ty = c.ty ∧ c'.se = c.se ∧ K' = core L m' c' ((rr, intsP (natL (rowOf 0 rs))) :: (rt', intsP (natL (tab 0 rs))) :: K),
    I, ip, _, _, _, h₀, _, rfl, W, (fun _ _ _ _ p hp => nomatch hp), S2, ⟨rfl, List.replicate ys.length false, rt, m, c, List.length_replicate .., fun _ _ _ => rfl, rfl, rfl, hro, hta, rfl, rfl, by rw [rowOf_false, tab_false]⟩, ?_, ?_⟩
  · rintro i v g K' hp tk E' Qn hi ⟨a, ta, hca, rfl⟩ ⟨hg, rs, rt', m', c', hrs, hm', e1, e2, e3, e4, e5, e6, rfl⟩ S3 kn
    have B3 : Bs w g := by show Bs0 w g.base; rw [hg]; exact B
    refine go_name ?_
    refine wpAny_assign_Name ?_
    have S3 := S3.perm (List.perm_middle (l₁ := [(L, nsP m'), (L + 12, cellP c'.fr), (L + 11, cellP c'.gr), (L + 10, cellP c'.fs), (L + 9, cellP c'.to), (L + 8, cellP c'.pu), (L + 7, cellP c'.le), (L + 6, cellP c'.ta), (L + 5, cellP c'.ro), (L + 4, cellP c'.y), (L + 3, cellP c'.se), (L + 2, cellP c'.ty), (L + 1, cellP c'.un)])).symm
    refine s_le (c := c') S3 fun h4 tk4 S4 => ?_
    have S5 := permK S4 (K' := (rr, intsP (natL (rowOf 0 rs))) :: (rt', intsP (natL (tab 0 rs))) :: (I, ip (i + 1)) :: K) (List.perm_middle (l₁ := [(rr, intsP (natL (rowOf 0 rs))), (rt', intsP (natL (tab 0 rs)))])).symm
    refine letter_turn B3 hh hu hA hrs hl hw hw2 S5 (e1.trans hy) rfl (e2.trans hun) e3 e4 ((hm' "width" (by decide) (by decide)).trans hm) fun g6 rf m6 c6 h6 tk6 f1 f2 f3 f4 f5 f6 f7 f8 S6 => ?_
    have S7 := permK S6 (K' := (I, ip (i + 1)) :: (rr, _) :: (rf, _) :: K) (List.perm_middle (l₁ := [(rr, _), (rf, _)]))
    have S8 := S7.perm (List.perm_middle (l₁ := [(L, nsP m6), (L + 12, cellP c6.fr), (L + 11, cellP c6.gr), (L + 10, cellP c6.fs), (L + 9, cellP c6.to), (L + 8, cellP c6.pu), (L + 7, cellP c6.le), (L + 6, cellP c6.ta), (L + 5, cellP c6.ro), (L + 4, cellP c6.y), (L + 3, cellP c6.se), (L + 2, cellP c6.ty), (L + 1, cellP c6.un)]))
    refine kn g6 _ h6 tk6 ⟨f1.trans hg, newR 0 (flg rs ys a), rf, m6, c6, ?_, fun z h1 h2 => (f2 z h1 h2).trans (hm' z h1 h2), f3.trans e1, f4.trans e2, f5, f6, f7.trans e5, f8.trans e6, rfl⟩ S8
    rw [newR_length, flg_length hrs]
  · rintro g K' hp tk ⟨hg, rs, rt', m', c', hrs, hm', e1, e2, e3, e4, e5, e6, rfl⟩ S3
    exact k g rs rt' m' c' hp tk hg hrs hm' e1 e3 e4 e5 e6 S3
end
end Mine
end
/-! text D13 -/
section
open PySem PySem.W PyProof.Rows PySem.Spec PySem.Calls PySem.SeqAt
set_option maxRecDepth 100000
set_option linter.unusedVariables false
set_option maxHeartbeats 1000000
namespace Mine
theorem slice4 (a b c d k : Nat) (hk : k ≤ 4) : Txt.slice (ofL [a, b, c, d]) none (some ((k : Nat) : Int)) = ofL ([a, b, c, d].take k) := by
  have : k = 0 ∨ k = 1 ∨ k = 2 ∨ k = 3 ∨ k = 4 := by omega
  rcases this with rfl | rfl | rfl | rfl | rfl <;> rfl
/-- where each front ends -/
noncomputable def frontsL (ps : List (Nat × Str)) : List Nat := (List.range (ps.length + 1)).map fun k => (means (ps.take k)).length
section
variable {w : World} {A : Around} {E : Value → Shared → Prop} {s : Shared} {t u : Tok} {h₀ : Gd} {H K : Led} {env : Env} {x : FX} {L : Addr} {m : Str → Option Value} {c : CV}
theorem law_13 {p1 p3 p5 p7 : Nat × Str} {ts : Tok} {Q : Flow → Shared → Prop} (B : Bs w h₀) (hh : A.handled = none) (hA : A.depth < 700) (S : St h₀ s.heap (core L m c K)) (hse : c.se = some (.str (ofL ([p1, p3, p5, p7].map (·.1))) ts)) (hok : ∀ p ∈ [p1, p3, p5, p7], SignOk p)
    (k : ∀ r h' tk, St h₀ h' (core L m { c with fr := some (.ref r) } ((r, intsP (natL (frontsL [p1, p3, p5, p7]))) :: K)) → wpAny (model pw w) A (execs (B13.drop 14) (eL x L)) Q E { s with heap := h', toks := tk }) :
    wpAny (model pw w) A (execs (B13.drop 13) (eL x L)) Q E s := by
  obtain ⟨cfr, cgr, cfs, cto, cpu, cle, cta, cro, cy, cse, cty, cun⟩ := c
  have hse : cse = _ := hse
  subst hse
  refine wpAny_execs_cons ?_
  refine wpAny_Assign_Name ?_
  refine lc (by rfl) hh ?_
  refine wpAny_Call_NameR ?_
  refine ev_blt B S (v := .type "range") (by decide) (by decide +kernel) ?_
  refine ct1 ?_
  refine wpAny_BinOp ?_
  refine wpAny_Call_NameR ?_
  refine ev_blt B S (v := .builtin "len") (by decide) (by decide +kernel) ?_
  refine cb1 ?_
  refine ev_cel (x := "second") (c := L + 3) S (by walk_at "mem") rfl ?_
  refine len_ofL (show 4 < 1000 by decide) fun t2 tk2 => ?_
  refine wpAny_Constant_int ?_
  refine addn (a := 4) (b := 1) ?_
  refine range1 (n := 5) S (by decide) fun r h1 tk1 t1 t2 t3 S1 => ?_
  refine iter_range S1 (.head _) (n := 5) (by decide) (by decide) fun I h2 W S2 => ?_
  have S2 := S2.sub (.cons_cons _ (.cons _ (List.Sublist.refl _)))
  refine ⟨fun i vs K' => K' = core L m _ K ∧ IntsAre vs (natL ((frontsL [p1, p3, p5, p7]).take i)), I, _, _, _, _, _, _, rfl, W, (by decide), (fun _ _ _ _ p hp => nomatch hp), S2, ⟨rfl, .nil⟩, ?_, ?_⟩
  · rintro i v C D mC K' vs hp tk' E' Qt Qf hi ⟨tv, rfl⟩ ⟨rfl, hvs⟩ hm hvl S3 kt kf
    have ei : (0 : Int) + (i : Int) * 1 = ((i : Nat) : Int) := by omega
    rw [ei] at hm
    have hmp : [p1, p3, p5, p7].map (·.1) = [p1.1, p3.1, p5.1, p7.1] := rfl
    have htk : ofL ([p1.1, p3.1, p5.1, p7.1].take i) = ofL (([p1, p3, p5, p7].take i).map (·.1)) := by rw [List.map_take]; rfl
    have hokt : ∀ p ∈ [p1, p3, p5, p7].take i, SignOk p := fun p hp => hok p (List.mem_of_mem_take hp)
    have hml := means_len ([p1, p3, p5, p7].take i) hokt
    have hlt : ([p1, p3, p5, p7].take i).length ≤ 4 := by rw [List.length_take]; exact Nat.min_le_right _ _
    have hfg : (frontsL [p1, p3, p5, p7]).getD i 0 = (means ([p1, p3, p5, p7].take i)).length := by
      unfold frontsL
      rw [List.getD_eq_getElem?_getD, List.getElem?_map, List.getElem?_range (show i < [p1, p3, p5, p7].length + 1 from hi)]; rfl
    refine no_tests ?_
    refine ite_t rfl ?_
    refine wpAny_Call_NameR ?_
    refine ev_blt B S3 (v := .builtin "len") (by decide) (by decide +kernel) ?_
    refine cb1 ?_
    refine wpAny_Call_NameR ?_
    refine ev_glo (v := .ref 111) B S3 (by decide) ?_
    refine cf1 (Bs.fn B.f111) ?_
    refine wpAny_Subscript_str_slice ?_
    refine ev_cel (x := "second") (c := L + 3) S3 (by walk_at "mem") rfl ?_
    refine wpAny_evalPart_none ?_
    refine wpAny_evalPart_some ?_
    refine ev_loc (x := "k") S3 (.head _) hm ?_
    refine ⟨_, _, none, some (((i : Nat) : Int), tv), rfl, rfl, rfl, ?_⟩
    refine post_val_or_str ⟨Nat.le_trans (Txt.slice_le _ _ _) (show 4 ≤ sizeLine by decide), fun t5 k5 => ?_⟩
    rw [hmp]
    have es : Txt.slice (ofL [p1.1, p3.1, p5.1, p7.1]) none (some ((i : Nat) : Int)) = ofL (([p1, p3, p5, p7].take i).map (·.1)) := (slice4 _ _ _ _ i (by omega)).trans htk
    have S4 := S3.keeps (fun b o e => Heap.get?_push_of_some { cls := .type "slice", data := .fields #[.none, .int (i : Nat) tv, .none] } e)
    show (∀ b o, h₀.base.get? b = some o → _) ∧ wpAny (model pw w) A (call (.ref 111) [.str (Txt.slice (ofL [p1.1, p3.1, p5.1, p7.1]) none (some ((i : Nat) : Int))) t5] []) _ _ _
    rw [es]
    refine ⟨S4.keep, ?_⟩
    refine c_prep' B S4 (by omega) hh (by omega) hokt fun t6 h6 tk6 S6 => ?_
    refine len_ofL (by omega) fun t7 tk7 => ?_
    refine kt _ _ _ _ ⟨rfl, ?_⟩ S6
    rw [take_snoc (show i < 5 from hi), hfg]
    exact ints_snoc hvs _ _
  · rintro D vs K' hp tk' ⟨rfl, hvs⟩ S6
    have S7 : St h₀ hp ((D, intsP (natL (frontsL [p1, p3, p5, p7]))) :: _) := S6.weak fun o ho => ⟨vs, hvs, ho⟩
    refine s_fr (toK S7) fun h2 tk2 S2 => ?_
    exact k _ _ _ S2
end
end Mine
end
/-! text P5 -/
section
open PySem PySem.W
set_option maxRecDepth 100000
namespace Mine
noncomputable def fr4 (a b c d : Nat) : List Nat := [0, a, a + b, a + b + c, a + b + c + d]
noncomputable def lhs4 (a b c d : Nat) : List Nat := (List.range (a + b + c + d)).map fun p => max 0 (min 5 (((fr4 a b c d).filter (· < p + 1)).length)) - 1
noncomputable def rhs4 (a b c d : Nat) : List Nat := List.replicate a 0 ++ List.replicate b 1 ++ List.replicate c 2 ++ List.replicate d 3
theorem bis_all : ∀ a < 4, ∀ b < 4, ∀ c < 4, ∀ d < 4, lhs4 a b c d = rhs4 a b c d ∧ (∀ p < a + b + c + d, 0 < max 0 (min 5 (((fr4 a b c d).filter (· < p + 1)).length))) := by decide +kernel
theorem frontsL4 (p1 p3 p5 p7 : Nat × Str) : frontsL [p1, p3, p5, p7] = fr4 p1.2.cps.size p3.2.cps.size p5.2.cps.size p7.2.cps.size := by
  unfold frontsL fr4
  simp [List.range_succ, means, Nat.add_assoc]
theorem means4 (p1 p3 p5 p7 : Nat × Str) : (means [p1, p3, p5, p7]).length = p1.2.cps.size + p3.2.cps.size + p5.2.cps.size + p7.2.cps.size := by
  simp [means, Nat.add_assoc]
end Mine
end
/-! text D14 -/
section
open PySem PySem.W PyProof.Rows PySem.Spec PySem.Calls PySem.SeqAt
set_option maxRecDepth 100000
set_option linter.unusedVariables false
set_option maxHeartbeats 1000000
namespace Mine
theorem fr4_sorted (a b c d : Nat) : (natL (fr4 a b c d)).Pairwise (· ≤ ·) := by
  simp [natL, fr4]
  omega
/-- the signs' numbers, once for each letter they mean -/
noncomputable def idxTo (ps : List (Nat × Str)) (i : Nat) : List Nat := ((List.range i).map fun q => List.replicate ((ps.getD q (0, Str.empty)).2.cps.size) q).flatten
theorem idxTo_succ (ps : List (Nat × Str)) (i : Nat) : idxTo ps (i + 1) = idxTo ps i ++ List.replicate ((ps.getD i (0, Str.empty)).2.cps.size) i := by
  simp [idxTo, List.range_succ]
theorem idxTo4 (p1 p3 p5 p7 : Nat × Str) : idxTo [p1, p3, p5, p7] 4 = rhs4 p1.2.cps.size p3.2.cps.size p5.2.cps.size p7.2.cps.size := by
  simp [idxTo, rhs4, List.range_succ]
section
variable {w : World} {A : Around} {E : Value → Shared → Prop} {s : Shared} {t u : Tok} {h₀ : Gd} {H K : Led} {env : Env} {x : FX} {L : Addr} {m : Str → Option Value} {c : CV}
theorem law_14 {p1 p3 p5 p7 : Nat × Str} {a1 a3 a5 a7 rt rf : Addr} {ty : Tok} {Q : Flow → Shared → Prop} (B : Bs w h₀) (hh : A.handled = none) (hu : A.units < cLine) (hA : A.depth < 700) (S : St h₀ s.heap (core L m c K)) (hy : c.y = some (.str (ofL (means [p1, p3, p5, p7])) ty)) (hfr : c.fr = some (.ref rf)) (hty : c.ty = some (.ref rt))
    (hK : (rf, intsP (natL (frontsL [p1, p3, p5, p7]))) ∈ K) (hK2 : (rt, listP ([a1, a3, a5, a7].map .ref)) ∈ K) (hp : ∀ (j : Nat) (a : Addr), [a1, a3, a5, a7][j]? = some a → ∃ p, [p1, p3, p5, p7][j]? = some p ∧ (a, pieceP p) ∈ K) (hok : ∀ p ∈ [p1, p3, p5, p7], SignOk p)
    (k : ∀ h' tk, St h₀ h' (core L m c K) → wpAny (model pw w) A (execs (B13.drop 15) (eL x L)) Q E { s with heap := h', toks := tk }) :
    wpAny (model pw w) A (execs (B13.drop 14) (eL x L)) Q E s := by
  obtain ⟨cfr, cgr, cfs, cto, cpu, cle, cta, cro, cy, cse, cty, cun⟩ := c
  have hy : cy = _ := hy
  have hfr : cfr = _ := hfr
  have hty : cty = _ := hty
  subst hy hfr hty
  have l1 := (hok p1 (.head _)).len
  have l3 := (hok p3 (.tail _ (.head _))).len
  have l5 := (hok p5 (.tail _ (.tail _ (.head _)))).len
  have l7 := (hok p7 (.tail _ (.tail _ (.tail _ (.head _))))).len
  have hn := means4 p1 p3 p5 p7
  have hf := frontsL4 p1 p3 p5 p7
  obtain ⟨hall, hpos⟩ := bis_all _ (Nat.lt_succ_of_le l1) _ (Nat.lt_succ_of_le l3) _ (Nat.lt_succ_of_le l5) _ (Nat.lt_succ_of_le l7)
  have hi4 := idxTo4 p1 p3 p5 p7
  rw [hf] at hK
  generalize hG : fr4 p1.2.cps.size p3.2.cps.size p5.2.cps.size p7.2.cps.size = G at hK hpos
  have hGs : (natL G).Pairwise (· ≤ ·) := hG ▸ fr4_sorted _ _ _ _
  have hGl : (natL G).length = 5 := by rw [← hG]; rfl
  have hlhs : lhs4 p1.2.cps.size p3.2.cps.size p5.2.cps.size p7.2.cps.size = (List.range (means [p1, p3, p5, p7]).length).map fun p => max 0 (min 5 ((G.filter (· < p + 1)).length)) - 1 := by rw [hn, ← hG]; rfl
  rw [← hn] at hpos
  have hn12 : (means [p1, p3, p5, p7]).length ≤ 12 := by omega
  generalize hM : means [p1, p3, p5, p7] = M at S hpos hn12 hlhs k
  refine wpAny_execs_cons ?_
  refine wpAny_If ?_
  refine wpAny_isTrue_Compare1 ?_ rfl
  refine lc (by rfl) hh ?_
  refine wpAny_Call_NameR ?_
  refine ev_blt B S (v := .type "range") (by decide) (by decide +kernel) ?_
  refine ct1 ?_
  refine wpAny_Call_NameR ?_
  refine ev_blt B S (v := .builtin "len") (by decide) (by decide +kernel) ?_
  refine cb1 ?_
  refine ev_cel (x := "y") (c := L + 4) S (by walk_at "mem") rfl ?_
  refine len_ofL (by omega) fun t2 tk2 => ?_
  refine range1 S (by omega) fun r h1 tk1 t1 t2 t3 S1 => ?_
  refine iter_range S1 (.head _) (n := M.length) (small_of' (by omega) (by omega)) (by rw [rangeSize_one]; split <;> omega) fun I h2 W S2 => ?_
  have S2 := S2.sub (.cons_cons _ (.cons _ (List.Sublist.refl _)))
  refine ⟨fun i vs K' => K' = core L m _ K ∧ IntsAre vs (natL ((List.range i).map fun p => max 0 (min 5 ((G.filter (· < p + 1)).length)) - 1)), I, _, _, _, _, _, _, rfl, W, Nat.le_trans hn12 (by decide), (fun _ _ _ _ p hp => nomatch hp), S2, ⟨rfl, .nil⟩, ?_, ?_⟩
  · rintro i v C D mC K' vs hp' tk' E' Qt Qf hi ⟨tv, rfl⟩ ⟨rfl, hvs⟩ hm hvl S3 kt kf
    have ei : (0 : Int) + (i : Int) * 1 = ((i : Nat) : Int) := by omega
    rw [ei] at hm
    have hps := hpos i hi
    refine no_tests ?_
    refine ite_t rfl ?_
    refine wpAny_BinOp ?_
    refine wpAny_Call_NameR ?_
    refine ev_glo (v := .ref 37) B S3 (by decide) ?_
    refine cf2 (Bs.fn B.f37) ?_
    refine ev_cel (x := "fronts") (c := L + 12) S3 (by walk_at "mem") rfl ?_
    refine wpAny_BinOp ?_
    refine ev_loc (x := "p") S3 (.head _) hm ?_
    refine wpAny_Constant_int ?_
    refine addn (b := 1) ?_
    refine ⟨S3.keep, ?_⟩
    refine c_bis2 B S3 (by omega) (.tail _ (.tail _ (.tail _ (inK hK)))) hGs (by omega) fun t6 h6 tk6 S6 => ?_
    rw [hGl, cntLt_nat]
    refine wpAny_Constant_int ?_
    refine subn (b := 1) (by omega) ?_
    refine kt _ _ _ _ ⟨rfl, ?_⟩ S6
    rw [List.range_succ, List.map_append, natL_append]
    exact ints_snoc hvs _ _
  · rintro D vs K' hp' tk' ⟨rfl, hvs⟩ S6
    have S7 : St h₀ hp' ((D, intsP (natL ((List.range M.length).map fun p => max 0 (min 5 ((G.filter (· < p + 1)).length)) - 1))) :: _) := S6.weak fun o ho => ⟨vs, hvs, ho⟩
    rw [← hlhs, hall, ← hi4] at S7
    refine lc2 (by rfl) hh (fun i j vs => IntsAre vs (natL (idxTo [p1, p3, p5, p7] i ++ List.replicate j i)) ∧ i ≤ 4 ∧ j ≤ 3) ?_
    refine wpAny_Call_NameR ?_
    refine ev_blt B S7 (v := .type "range") (by decide) (by decide +kernel) ?_
    refine ct1 ?_
    refine wpAny_Call_NameR ?_
    refine ev_blt B S7 (v := .builtin "len") (by decide) (by decide +kernel) ?_
    refine cb1 ?_
    refine ev_cel (x := "typed") (c := L + 2) S7 (by walk_at "mem") rfl ?_
    refine call_len_list (S7.plist (.tail _ (inK hK2))).isList (show ((4 : Nat) : Int) < 2 ^ 63 by decide) ?_
    refine range1 (n := 4) S7 (by decide) fun r3 h3 tk3 u1 u2 u3 S8 => ?_
    refine iter_range S8 (.head _) (n := 4) (by decide) (by decide) fun I3 h4 W3 S9 => ?_
    have S9 := S9.sub (.cons_cons _ (.cons _ (List.Sublist.refl _)))
    refine ⟨I3, _, _, _, _, _, _, rfl, W3, (fun _ hp => nomatch hp), S9, ⟨.nil, Nat.zero_le _, Nat.zero_le _⟩, ?_, ?_, ?_⟩
    · rintro i j vs ⟨hv, hi, hj⟩
      have hb : ∀ i ≤ 4, (idxTo [p1, p3, p5, p7] i).length ≤ 12 := by
        intro i hi
        have : i = 0 ∨ i = 1 ∨ i = 2 ∨ i = 3 ∨ i = 4 := by omega
        rcases this with rfl | rfl | rfl | rfl | rfl <;> simp [idxTo, List.range_succ] <;> omega
      rw [ints_len hv, natL_length, List.length_append, List.length_replicate]
      have := hb i hi
      omega
    · rintro A' i v C2 D2 mC vs hp2 tk2 E' Q' hh' hi ⟨tv, rfl⟩ ⟨hv, -, -⟩ hm2 S10 kk
      have ei : (0 : Int) + (i : Int) * 1 = ((i : Nat) : Int) := by omega
      rw [ei] at hm2
      obtain ⟨a, ha⟩ : ∃ a, [a1, a3, a5, a7][i]? = some a := ⟨_, List.getElem?_eq_getElem (show i < [a1, a3, a5, a7].length from hi)⟩
      obtain ⟨p, hpe, hpm⟩ := hp i a ha
      obtain ⟨q1, q2, hil⟩ := S10.piece (.tail _ (.tail _ (.tail _ (.tail _ (inK hpm)))))
      have hgd : [p1, p3, p5, p7].getD i (0, Str.empty) = p := by rw [List.getD_eq_getElem?_getD, hpe]; rfl
      have hpl : p.2.cps.size ≤ 3 := (hok p (List.mem_of_getElem? hpe)).len
      refine Subscript_ ?_
      refine Subscript_ ?_
      refine ev_cel (x := "typed") (c := L + 2) S10 (by walk_at "mem") rfl ?_
      refine ev_loc (x := "i") S10 (.head _) hm2 ?_
      refine sub_vals S10 (.tail _ (.tail _ (.tail _ (.tail _ (inK hK2))))) (by omega) (by omega) (x := .ref a) (by rw [Int.toNat_natCast, List.getElem?_map, ha]; rfl) ?_
      refine wpAny_Constant_int ?_
      refine tail_any hil.typeIs slot_list_getitem.lookup (wpAny_getItem_list hil (by decide) (by decide) (by rfl) ?_) (by with_unfolding_all rfl)
      refine iter_str S10 fun I4 h5 ip4 W4 S11 => ?_
      refine kk I4 ip4 _ _ h5 _ W4 S11.swap ?_ ?_
      · rintro A'' j v2 m2 vs2 hp5 tk5 E5 Q5 hj - ⟨hv2, -, -⟩ - hm1 S12 k2
        refine ev_loc (x := "i") S12 (.head _) ((hm1 (by decide)).trans (congrArg (fun z => some (Value.int z tv)) ei)) ?_
        refine k2 _ _ _ ⟨?_, by omega, by omega⟩ S12
        rw [List.replicate_succ', ← List.append_assoc, natL_append]
        exact ints_snoc hv2 _ _
      · rintro vs2 ⟨hv2, -, -⟩
        refine ⟨?_, by omega, Nat.zero_le _⟩
        rw [idxTo_succ, hgd]
        simpa using hv2
    · rintro D3 vs3 hp3 tk4 ⟨hv3, -, -⟩ S13
      have S14 : St h₀ hp3 ((D3, intsP (natL (idxTo [p1, p3, p5, p7] 4))) :: _) := S13.weak fun o ho => ⟨vs3, by simpa using hv3, ho⟩
      refine ne_ints S14 (.tail _ (.head _)) (.head _) hu ?_
      refine wpAny_truthy_bool ?_
      refine ite_f (by rw [decide_eq_true rfl]; rfl) ?_
      refine wpAny_execs_nil ?_
      exact k _ _ S14.drop.drop
end
end Mine
end
/-! text D15 -/
section
open PySem PySem.W PyProof.Rows PySem.Spec PySem.Calls PySem.SeqAt
set_option maxRecDepth 100000
set_option linter.unusedVariables false
set_option maxHeartbeats 1000000
namespace Mine
noncomputable def BF : List Stmt := match B13.getD 15 (.Pass ⟨0, 0, 0, 0⟩) with
  | .For _ _ b _ _ => b
  | _ => []
noncomputable def BR : List Stmt := match BF.getD 0 (.Pass ⟨0, 0, 0, 0⟩) with
  | .For _ _ b _ _ => b
  | _ => []
section
variable {w : World} {A : Around} {E : Value → Shared → Prop} {s : Shared} {t u : Tok} {h₀ : Gd} {H K : Led} {env : Env} {x : FX} {L : Addr} {m : Str → Option Value} {c : CV}
theorem room_turn {rs : List Bool} {rr rt : Addr} {f q : Nat} {tf tr : Tok} {H : Led} {Q : Flow → Shared → Prop} (B : Bs w h₀) (hh : A.handled = none) (hA : A.depth < 700) (S : St h₀ s.heap (H)) (hL : (L, nsP m) ∈ H) (h5 : (L + 5, cellP (some (.ref rr))) ∈ H) (h6 : (L + 6, cellP (some (.ref rt))) ∈ H)
    (hK : (rr, intsP (natL (rowOf 0 rs))) ∈ H) (hK2 : (rt, intsP (natL (tab 0 rs))) ∈ H) (hrs : rs.length ≤ 12) (hf : f ≤ rs.length) (hq : q ≤ (rowOf 0 rs).length) (hmf : m "front" = some (.int (f : Nat) tf)) (hmr : m "room" = some (.int (q : Nat) tr))
    (k : ∀ h' tk, St h₀ h' H → Q .next { s with heap := h', toks := tk }) :
    wpAny (model pw w) A (execs BR (eL x L)) Q E s := by
  have hTl : (tab 0 rs).length = rs.length + 1 := tab_length _ _
  have hRl := rowOf_length_le rs 0
  have hcount := tab_count rs 0 0 f hf
  rw [Nat.zero_add, Nat.zero_add] at hcount
  have hcle : ((rowOf 0 rs).filter (· < f)).length ≤ (rowOf 0 rs).length := List.length_filter_le _ _
  have hsort : (natL (rowOf 0 rs)).Pairwise (· ≤ ·) := natL_sorted (rowOf_sorted rs 0)
  refine wpAny_execs_cons ?_
  refine wpAny_If ?_
  refine wpAny_isTrue_BoolOp ?_
  refine wpAny_allTrue_Or_cons ?_
  refine wpAny_isTrue_Compare1 ?_ rfl
  refine wpAny_Call_NameR ?_
  refine ev_glo (v := .ref 37) B S (by decide) ?_
  refine cf4 (Bs.fn B.f37) ?_
  refine ev_cel (x := "row") (c := L + 5) S h5 rfl ?_
  refine ev_loc (x := "front") S hL hmf ?_
  refine wpAny_Constant_int ?_
  refine ev_loc (x := "room") S hL hmr ?_
  refine ⟨S.keep, ?_⟩
  refine c_bis4 (lo := 0) (hi := q) B S (by omega) hK hsort (Nat.zero_le _) (by rw [natL_length]; exact hq) (by rw [natL_length]; omega) fun t1 h1 tk1 S1 => ?_
  rw [cntLt_nat]
  refine wpAny_Call_NameR ?_
  refine ev_blt B S1 (v := .builtin "min") (by decide) (by decide +kernel) ?_
  refine cb2 ?_
  refine ev_loc (x := "room") S1 hL hmr ?_
  refine Subscript_ ?_
  refine ev_cel (x := "table") (c := L + 6) S1 h6 rfl ?_
  refine ev_loc (x := "front") S1 hL hmf ?_
  refine sub_nats S1 hK2 (by omega) (by omega) fun t2 => ?_
  refine min2 S1 hh fun t3 h3 tk3 S3 => ?_
  refine ne_to false ?_ ?_
  · rw [hcount]; simp; omega
  refine wpAny_truthy_bool ?_
  refine ite_f rfl ?_
  refine wpAny_allTrue_Or_cons ?_
  refine wpAny_isTrue_Compare1 ?_ rfl
  refine wpAny_Call_NameR ?_
  refine ev_glo (v := .ref 37) B S3 (by decide) ?_
  refine cf3 (Bs.fn B.f37) ?_
  refine ev_cel (x := "row") (c := L + 5) S3 h5 rfl ?_
  refine ev_loc (x := "front") S3 hL hmf ?_
  refine ev_loc (x := "room") S3 hL hmr ?_
  refine ⟨S3.keep, ?_⟩
  refine c_bis3 (lo := q) B S3 (by omega) hK hsort (by rw [natL_length]; exact hq) (by rw [natL_length]; omega) fun t4 h4 tk4 S4 => ?_
  rw [cntLt_nat, natL_length]
  refine wpAny_Call_NameR ?_
  refine ev_blt B S4 (v := .builtin "max") (by decide) (by decide +kernel) ?_
  refine cb2 ?_
  refine ev_loc (x := "room") S4 hL hmr ?_
  refine Subscript_ ?_
  refine ev_cel (x := "table") (c := L + 6) S4 h6 rfl ?_
  refine ev_loc (x := "front") S4 hL hmf ?_
  refine sub_nats S4 hK2 (by omega) (by omega) fun t5 => ?_
  refine max2 S4 hh fun t6 h6' tk6 S6 => ?_
  refine ne_to false ?_ ?_
  · rw [hcount]; simp; omega
  refine wpAny_truthy_bool ?_
  refine ite_f rfl ?_
  refine wpAny_allTrue_Or_nil ?_
  refine ite_f rfl ?_
  refine wpAny_execs_nil ?_
  refine wpAny_execs_nil ?_
  exact k _ _ S6
end
end Mine
end
/-! text D16 -/
section
open PySem PySem.W PyProof.Rows PySem.Spec PySem.Calls PySem.SeqAt
set_option maxRecDepth 100000
set_option linter.unusedVariables false
set_option maxHeartbeats 1000000
namespace Mine
theorem steps_ints (w : World) (I l : Addr) (xs : List Int) : Steps w I (liP l) xs.length (fun i v => ∃ t, ∃ x, xs[i]? = some x ∧ v = .int x t) [(l, intsP xs)] where
  item := fun i hi S hL k => by
    obtain ⟨vs, hiv, hl⟩ := S.intsL (.tail _ (hL _ (.head _)))
    obtain ⟨t, et⟩ := ints_get hiv i xs[i] (List.getElem?_eq_getElem hi)
    refine wpAny_pyNext_list_item (x := .int xs[i] t) (S.li (.head _)) hl.isList (by simpa using et) fun h' hit hs => ?_
    obtain ⟨o, e, r⟩ := hit
    exact k _ h' _ ⟨t, xs[i], List.getElem?_eq_getElem hi, rfl⟩ (S.up .head hs ⟨o, e, r⟩)
  done := fun hh S hL k => by
    obtain ⟨vs, hiv, hl⟩ := S.intsL (.tail _ (hL _ (.head _)))
    exact wpAny_pyNext_list_end hh (S.li (.head _)) hl.isList (by have := ints_len hiv; simp; omega) fun h' hs => k h' _ (S.dropE hs)
  self := fun i S k => wpAny_pyIter_listiter (S.li (.head _)) k
section
variable {w : World} {A : Around} {E : Value → Shared → Prop} {s : Shared} {t u : Tok} {h₀ : Gd} {H K : Led} {env : Env} {x : FX} {L : Addr} {m : Str → Option Value} {c : CV}
theorem iter_ints {l : Addr} {xs : List Int} {Q : Value → Shared → Prop} (S : St h₀ s.heap H) (hm : (l, intsP xs) ∈ H)
    (k : ∀ I h', Steps w I (liP l) xs.length (fun i v => ∃ t, ∃ x, xs[i]? = some x ∧ v = .int x t) [(l, intsP xs)] → St h₀ h' ((I, liP l 0) :: H) → Q (.ref I) { s with heap := h' }) : wpAny (model pw w) A (pyIter (.ref l)) Q E s := by
  obtain ⟨vs, hiv, hl⟩ := S.intsL hm
  exact wpAny_pyIter_list hl.isList (k _ _ (steps_ints w _ l xs) (S.push _ _ ⟨rfl, rfl⟩))
theorem front_turn {rs : List Bool} {rr rt : Addr} {f : Nat} {tf : Tok} {I : Addr} {pI : PO} {Q : Flow → Shared → Prop} (B : Bs w h₀) (hh : A.handled = none) (hA : A.depth < 700) (S : St h₀ s.heap ((I, pI) :: core L m c K)) (hro : c.ro = some (.ref rr)) (hta : c.ta = some (.ref rt))
    (hK : (rr, intsP (natL (rowOf 0 rs))) ∈ K) (hK2 : (rt, intsP (natL (tab 0 rs))) ∈ K) (hrs : rs.length ≤ 12) (hf : f ≤ rs.length) (hmf : m "front" = some (.int (f : Nat) tf))
    (k : ∀ m' h' tk, St h₀ h' ((I, pI) :: core L m' c K) → Q .next { s with heap := h', toks := tk }) :
    wpAny (model pw w) A (execs BF (eL x L)) Q E s := by
  obtain ⟨cfr, cgr, cfs, cto, cpu, cle, cta, cro, cy, cse, cty, cun⟩ := c
  have hro : cro = _ := hro
  have hta : cta = _ := hta
  subst hro hta
  have hRl := rowOf_length_le rs 0
  refine wpAny_execs_cons ?_
  refine forL hh ?_
  refine wpAny_Call_NameR ?_
  refine ev_blt B S (v := .type "range") (by decide) (by decide +kernel) ?_
  refine ct1 ?_
  refine wpAny_BinOp ?_
  refine wpAny_Call_NameR ?_
  refine ev_blt B S (v := .builtin "len") (by decide) (by decide +kernel) ?_
  refine cb1 ?_
  refine ev_cel (x := "row") (c := L + 5) S (by walk_at "mem") rfl ?_
  refine len_ints S (.tail _ (inK hK)) (by rw [natL_length]; omega) fun t2 tk2 => ?_
  rw [natL_length]
  refine wpAny_Constant_int ?_
  refine addn (b := 1) ?_
  refine range1 S (by omega) fun r h1 tk1 t1 t2 t3 S1 => ?_
  refine iter_range S1 (.head _) (n := (rowOf 0 rs).length + 1) (small_of' (by omega) (by omega)) (by rw [rangeSize_one]; split <;> omega) fun I2 h2 W S2 => ?_
  have S2 := S2.sub (.cons_cons _ (.cons _ (List.Sublist.refl _)))
  refine ⟨fun i g K' => g = h₀ ∧ ∃ m', m' "front" = some (.int (f : Nat) tf) ∧ K' = (I, pI) :: core L m' _ K, I2, _, _, _, _, h₀, _, rfl, W, (fun _ _ _ _ p hp => nomatch hp), S2, ⟨rfl, m, hmf, rfl⟩, ?_, ?_⟩
  · rintro i v g K' hp tk E' Qn hi ⟨tv, rfl⟩ ⟨rfl, m', hmf', rfl⟩ S3 kn
    have ei : (0 : Int) + (i : Int) * 1 = ((i : Nat) : Int) := by omega
    rw [ei]
    refine go_name ?_
    refine wpAny_assign_Name ?_
    refine st_loc (env := eL x L) (x := "room") S3 (.tail (.tail .head)) (fun h4 tk4 S4 => ?_)
    refine room_turn (rs := rs) (f := f) (q := i) B hh hA S4 (.tail _ (.tail _ (.head _))) (by walk_at "mem") (by walk_at "mem") (.tail _ (.tail _ (inK hK))) (.tail _ (.tail _ (inK hK2))) hrs hf (by omega) ((if_neg (by decide)).trans hmf') (if_pos rfl) fun h5 tk5 S5 => ?_
    exact kn _ _ h5 tk5 ⟨rfl, _, (if_neg (by decide)).trans hmf', rfl⟩ S5
  · rintro g K' hp tk ⟨rfl, m', hmf', rfl⟩ S3
    refine wpAny_execs_nil ?_
    exact k m' hp tk S3
theorem law_15 {rs : List Bool} {fs : List Nat} {rr rt rf : Addr} {Q : Flow → Shared → Prop} (B : Bs w h₀) (hh : A.handled = none) (hA : A.depth < 700) (S : St h₀ s.heap (core L m c K)) (hro : c.ro = some (.ref rr)) (hta : c.ta = some (.ref rt)) (hfr : c.fr = some (.ref rf))
    (hK : (rr, intsP (natL (rowOf 0 rs))) ∈ K) (hK2 : (rt, intsP (natL (tab 0 rs))) ∈ K) (hK3 : (rf, intsP (natL fs)) ∈ K) (hrs : rs.length ≤ 12) (hf : ∀ f ∈ fs, f ≤ rs.length)
    (k : ∀ m' h' tk, St h₀ h' (core L m' c K) → Q (.ret (.bool true)) { s with heap := h', toks := tk }) :
    wpAny (model pw w) A (execs (B13.drop 15) (eL x L)) Q E s := by
  obtain ⟨cfr, cgr, cfs, cto, cpu, cle, cta, cro, cy, cse, cty, cun⟩ := c
  have hro : cro = _ := hro
  have hta : cta = _ := hta
  have hfr : cfr = _ := hfr
  subst hro hta hfr
  refine wpAny_execs_cons ?_
  refine forL hh ?_
  refine ev_cel (x := "fronts") (c := L + 12) S (by walk_at "mem") rfl ?_
  refine iter_ints S (inK hK3) fun I h2 W S2 => ?_
  refine ⟨fun i g K' => g = h₀ ∧ ∃ m', K' = core L m' _ K, I, _, _, _, _, h₀, _, rfl, W, ?_, S2, ⟨rfl, m, rfl⟩, ?_, ?_⟩
  · rintro i g K' ⟨-, m', rfl⟩ p hp
    rw [List.mem_singleton.mp hp]
    exact inK hK3
  · rintro i v g K' hp tk E' Qn hi ⟨tv, z, hz, rfl⟩ ⟨rfl, m', rfl⟩ S3 kn
    rw [natL, List.getElem?_map] at hz
    obtain ⟨f, hfe, rfl⟩ := Option.map_eq_some_iff.mp hz
    refine go_name ?_
    refine wpAny_assign_Name ?_
    refine st_loc (env := eL x L) (x := "front") S3 (.tail .head) (fun h4 tk4 S4 => ?_)
    refine front_turn (rs := rs) (f := f) (tf := tv) B hh hA S4 rfl rfl hK hK2 hrs (hf f (List.mem_of_getElem? hfe)) (if_pos rfl) fun m5 h5 tk5 S5 => ?_
    exact kn _ _ h5 tk5 ⟨rfl, m5, rfl⟩ S5
  · rintro g K' hp tk ⟨rfl, m', rfl⟩ S3
    refine wpAny_execs_cons ?_
    refine wpAny_Return_some ?_
    refine wpAny_Constant_bool ?_
    exact k m' hp tk S3
end
end Mine
end
/-! text D17 -/
section
open PySem PySem.W PyProof.Rows PySem.Spec PySem.Calls PySem.SeqAt
set_option maxRecDepth 100000
set_option linter.unusedVariables false
set_option maxHeartbeats 1000000
namespace Mine
theorem drawn_len (ns : List Int) : (drawnOf ns).length = 8 := by
  have : more8.length = 8 := rfl
  unfold drawnOf
  rw [List.length_append, List.length_take, List.length_drop]; omega
theorem list8 {α : Type} {l : List α} (h : l.length = 8) : ∃ a0 a1 a2 a3 a4 a5 a6 a7, l = [a0, a1, a2, a3, a4, a5, a6, a7] := by
  match l, h with
  | [a0, a1, a2, a3, a4, a5, a6, a7], _ => exact ⟨_, _, _, _, _, _, _, _, rfl⟩
theorem means_take_le (ps : List (Nat × Str)) (k : Nat) : (means (ps.take k)).length ≤ (means ps).length := by
  have e : means ps = means (ps.take k) ++ means (ps.drop k) := by
    unfold means
    rw [← List.flatten_append, ← List.map_append, List.take_append_drop]
  rw [e, List.length_append]; omega
section
variable {w : World} {A : Around} {E : Value → Shared → Prop} {s : Shared} {t u : Tok} {h₀ : Gd} {H K : Led} {env : Env} {x : FX} {L : Addr} {m : Str → Option Value} {c : CV}
theorem c_law {ls : Addr} {pm cd doc : Value} {fa : Addr} {ns : List Int} {o : Obj} {Q : Value → Shared → Prop} (B : Bs w h₀) (hh : A.handled = none) (hu : A.units + 3 < cLine) (hA : A.depth < 600) (X : ScriptAt h₀ ls ns) (hn : ns.length ≤ 63) (S : St h₀ s.heap H) (ho : s.heap.get? fa = some o) (hd : o.data = .func (fdL ⟨pm, cd, doc, .none, .none, fa⟩)) (hcd : s.heap.CodeRec cd "law")
    (k : ∀ g h' tk, g.base = h₀.base → St g h' H → Q (.bool true) { s with heap := h', toks := tk }) :
    wpAny (model pw w) A (call (.ref fa) [.ref ls] []) Q E s := by
  refine call_fnC (args := ⟨[.ref ls], []⟩) (binds := [("script", .ref ls)]) B S (Nat.lt_of_lt_of_le hA (by decide)) ho hd hcd rfl (BindsTo.of_eq rfl) rfl (fun L h' tk hL S1 => ?_) (hnd := (by decide : ((cellsFrom 0 (fscope (pst 13)).names []).map (·.1)).Nodup))
  have S1 : St h₀ h' (core L (fun y => if y = "script" then some (.ref ls) else none) ⟨none, none, none, none, none, none, none, none, none, none, none, none⟩ H) := S1
  have hA' : (A.deeper (eL ⟨pm, cd, doc, .none, .none, fa⟩ L)).depth < 700 := by show A.depth + 1 < 700; omega
  have hh' : (A.deeper (eL ⟨pm, cd, doc, .none, .none, fa⟩ L)).handled = none := hh
  have hu' : (A.deeper (eL ⟨pm, cd, doc, .none, .none, fa⟩ L)).units < cLine := hu
  have hw1 : widthOf ns ≤ 1400 := by unfold widthOf; omega
  have hw0 : 0 < widthOf ns := by unfold widthOf; omega
  refine law_0 B hh' X S1 rfl fun tw h1 tk1 S2 => ?_
  refine law_1 S2 rfl hw1 fun tu h2 tk2 S3 => ?_
  refine law_2 B X hn S3 rfl fun rd h3 tk3 S4 => ?_
  have hd8 := drawn_len ns
  refine law_3 B hh' hA' S4 rfl (by omega) fun rp rs X1 h4 tk4 hP S5 => ?_
  refine law_4 B hh' hA' S5 rfl hP fun m5 h5 tk5 hm5 S6 => ?_
  have hr8 : rs.length = 8 := hP.len.trans hd8
  obtain ⟨a0, a1, a2, a3, a4, a5, a6, a7, rfl⟩ := list8 hr8
  obtain ⟨n0, n1, n2, n3, n4, n5, n6, n7, hns⟩ := list8 hd8
  rw [hns] at hP
  have q0 := hP.at_ 0 a0 n0 rfl rfl
  have q1 := hP.at_ 1 a1 n1 rfl rfl
  have q2 := hP.at_ 2 a2 n2 rfl rfl
  have q3 := hP.at_ 3 a3 n3 rfl rfl
  have q4 := hP.at_ 4 a4 n4 rfl rfl
  have q5 := hP.at_ 5 a5 n5 rfl rfl
  have q6 := hP.at_ 6 a6 n6 rfl rfl
  have q7 := hP.at_ 7 a7 n7 rfl rfl
  have hok : ∀ p ∈ [sgn n0, sgn n2, sgn n4, sgn n6], SignOk p := by
    intro p hp
    simp only [List.mem_cons, List.not_mem_nil, or_false] at hp
    rcases hp with rfl | rfl | rfl | rfl <;> exact sgn_ok _
  have hok' : ∀ p ∈ [sgn n1, sgn n3, sgn n5, sgn n7], SignOk p := by
    intro p hp
    simp only [List.mem_cons, List.not_mem_nil, or_false] at hp
    rcases hp with rfl | rfl | rfl | rfl <;> exact sgn_ok _
  have even : ∀ (K : Led), (∀ e ∈ X1, e ∈ K) → ∀ (j : Nat) (a : Addr), [a0, a2, a4, a6][j]? = some a → ∃ p, [sgn n0, sgn n2, sgn n4, sgn n6][j]? = some p ∧ (a, pieceP p) ∈ K := by
    intro K hK j a ha
    match j, ha with
    | 0, ha => cases ha; exact ⟨_, rfl, hK _ q0⟩
    | 1, ha => cases ha; exact ⟨_, rfl, hK _ q2⟩
    | 2, ha => cases ha; exact ⟨_, rfl, hK _ q4⟩
    | 3, ha => cases ha; exact ⟨_, rfl, hK _ q6⟩
  have odd : ∀ (K : Led), (∀ e ∈ X1, e ∈ K) → ∀ (j : Nat) (a : Addr), [a1, a3, a5, a7][j]? = some a → ∃ p, [sgn n1, sgn n3, sgn n5, sgn n7][j]? = some p ∧ (a, pieceP p) ∈ K := by
    intro K hK j a ha
    match j, ha with
    | 0, ha => cases ha; exact ⟨_, rfl, hK _ q1⟩
    | 1, ha => cases ha; exact ⟨_, rfl, hK _ q3⟩
    | 2, ha => cases ha; exact ⟨_, rfl, hK _ q5⟩
    | 3, ha => cases ha; exact ⟨_, rfl, hK _ q7⟩
  have hmp : m5 "pieces" = some (.ref rp) := (hm5 "pieces" (by decide) (by decide)).trans (if_pos rfl)
  refine law_5 S6 hmp fun rt h6 tk6 S7 => ?_
  refine law_6 (as := [a1, a3, a5, a7]) (ps := [sgn n1, sgn n3, sgn n5, sgn n7]) hh' S7 rfl rfl (by decide : 4 ≤ 100) (odd _ fun e he => .tail _ (List.mem_append_left _ he)) fun ts h7 tk7 S8 => ?_
  rw [join_ones'] at S8
  refine law_7 (p0 := sgn n0) (p2 := sgn n2) (p4 := sgn n4) (p6 := sgn n6) B hh' hA' S8 hmp (.tail _ (.head _)) (even _ fun e he => .tail _ (.tail _ (List.mem_append_left _ he))) hok fun tx h8 tk8 S9 => ?_
  refine law_8 (ps := [sgn n1, sgn n3, sgn n5, sgn n7]) B hh' hA' S9 rfl (by decide : 4 ≤ 20) hok' fun ty h9 tk9 S10 => ?_
  refine law_9 (p0 := sgn n0) (p2 := sgn n2) (p4 := sgn n4) (p6 := sgn n6) (p1 := sgn n1) (p3 := sgn n3) (p5 := sgn n5) (p7 := sgn n7) hh' S10 ((if_neg (by decide)).trans hmp) (.tail _ (.head _)) rfl (.head _) (even _ fun e he => .tail _ (.tail _ (List.mem_append_left _ he))) hok (odd _ fun e he => .tail _ (.tail _ (List.mem_append_left _ he))) hok' (if_pos rfl) rfl fun h10 tk10 S11 => ?_
  refine law_10 S11 fun rr h11 tk11 S12 => ?_
  have hyl := means_len [sgn n1, sgn n3, sgn n5, sgn n7] hok'
  have hy12 : (means [sgn n1, sgn n3, sgn n5, sgn n7]).length ≤ 12 := hyl
  refine law_11 B S12 rfl hy12 fun rtb h12 tk12 S13 => ?_
  have hmw : up m5 "x" (.str (ofL (means [sgn n0, sgn n2, sgn n4, sgn n6])) tx) "width" = some (.int (widthOf ns : Nat) tw) := (if_neg (by decide)).trans ((hm5 "width" (by decide) (by decide)).trans ((if_neg (by decide)).trans ((if_neg (by decide)).trans (if_pos rfl))))
  refine law_12 (xs := means [sgn n0, sgn n2, sgn n4, sgn n6]) B hh' hu' hA' hy12 hw0 hw1 S13 rfl rfl rfl rfl hmw (if_pos rfl) fun g rs rt' m14 c14 h14 tk14 hg hrs hm14 e1 e2 e3 e4 e5 S14 => ?_
  have B2 : Bs w g := by show Bs0 w g.base; rw [hg]; exact B
  refine law_13 B2 hh' hA' S14 e5 hok' fun rf h15 tk15 S15 => ?_
  refine law_14 (rt := rt) (a1 := a1) (a3 := a3) (a5 := a5) (a7 := a7) B2 hh' hu' hA' S15 e1 rfl e4 (.head _) (.tail _ (.tail _ (.tail _ (.head _)))) (odd _ fun e he => .tail _ (.tail _ (.tail _ (.tail _ (.tail _ (List.mem_append_left _ he)))))) hok' fun h16 tk16 S16 => ?_
  refine law_15 (rs := rs) B2 hh' hA' S16 e2 e3 rfl (.tail _ (.head _)) (.tail _ (.tail _ (.head _))) (.head _) (by omega) ?_ fun m17 h17 tk17 S17 => ?_
  · intro f hf
    rw [hrs]
    unfold frontsL at hf
    obtain ⟨kk, hk, rfl⟩ := List.mem_map.mp hf
    exact means_take_le _ kk
  refine k g h17 tk17 hg (S17.sub ?_)
  have hX : List.Sublist H (List.append X1 H) := List.sublist_append_right X1 H
  exact (.cons _ (.cons _ (.cons _ (.cons _ (.cons _ (.cons _ (.cons _ (.cons _ (.cons _ (.cons _ (.cons _ (.cons _ (.cons _ (.cons _ (.cons _ (.cons _ (.cons _ (.cons _ hX))))))))))))))))))
end
end Mine
end
/-! text H1 -/
section
open PySem PySem.W PyProof.Rows PySem.Spec PySem.Calls
set_option maxRecDepth 100000
set_option linter.unusedVariables false
namespace Mine
/-! what the top lays, object by object (printed by G3) -/
noncomputable def ents : Nat → List (Int × Str) → List DictEntry
  | _, [] => []
  | t, (k, v) :: r => ⟨hashInt k, .int k t, .str v (t + 1)⟩ :: ents (t + 3) r
noncomputable def ents2 : Nat → List (Int × Str) → List DictEntry
  | _, [] => []
  | t, (k, v) :: r => ⟨hashInt k, .int k t, .str v (t + 1)⟩ :: ents2 (t + 2) r
noncomputable def b3chunk (j : Nat) : List (Int × Str) := (b3list.drop (17 * j)).take 17
noncomputable def b3all : List DictEntry := ents 296 (b3list.take 646) ++ ents2 2234 (b3list.drop 646)
noncomputable def dO (es : List DictEntry) : Obj := { cls := .type "dict", data := .dict es.toArray es.length }
noncomputable def b3main (_ : Params) : Obj := dO b3all
noncomputable def b3sub (j : Nat) (_ : Params) : Obj := if j < 37 then dO (ents (296 + 51 * (j + 1)) (b3chunk (j + 1))) else dO (ents2 2234 (b3chunk 38))
noncomputable abbrev oa_11 (P : Params) : Obj := (Obj.mk (Value.type "tuple") none (Data.seq (List.toArray []) 0) (List.toArray []))
noncomputable abbrev oa_12 (P : Params) : Obj := (Obj.mk Value.none none (Data.fields (List.toArray [])) (List.toArray []))
noncomputable abbrev oa_13 (P : Params) : Obj := (Obj.mk (Value.type "code") none (Data.fields (List.toArray [(Value.str (Str.ofString "<module>") 182), (Value.str (Str.ofString "<module>") 183), (Value.str (Str.ofString "/claim/cut.py") 184), (Value.int (1 : Int) 0), (Value.int (0 : Int) 0), (Value.int (0 : Int) 0), (Value.int (0 : Int) 0), (Value.int (0 : Int) 0), (Value.ref 11), (Value.bool Bool.false), (Value.int (181 : Int) 0), (Value.ref 12), Value.none, Value.none, Value.none, Value.none, (Value.int (185 : Int) 0), (Value.int (1 : Int) 0), (Value.str (Str.ofString "/claim/cut.py") 186)])) (List.toArray []))
noncomputable abbrev oa_14 (P : Params) : Obj := (Obj.mk (Value.type "frame") none Data.plain (List.toArray [(some (Value.ref 13)), (some (Value.ref 3)), (some (Value.ref 3)), none, (some (Value.str (Str.ofString "__main__") 164)), none, (some (Value.ref 0))]))
noncomputable abbrev ta (P : Params) : BT := (.node (boot_o_0 P) (.node (boot_o_1 P) (.node (boot_o_3 P) (.node (boot_o_7 P) .nil .nil) (.node (oa_11 P) .nil .nil)) (.node (boot_o_5 P) (.node (boot_o_9 P) .nil .nil) (.node (oa_13 P) .nil .nil))) (.node (boot_o_2 P) (.node (boot_o_4 P) (.node (boot_o_8 P) .nil .nil) (.node (oa_12 P) .nil .nil)) (.node (boot_o_6 P) (.node (boot_o_10 P) .nil .nil) (.node (oa_14 P) .nil .nil))))
noncomputable abbrev oA_3 (P : Params) : Obj := (Obj.mk (Value.type "dict") none (Data.dict (List.toArray [(DictEntry.mk (PyData.keyHash P (Str.ofString "__name__")) (Value.str (Str.ofString "__name__") 165) (Value.str (Str.ofString "cpy313.stringprep") 227)), (DictEntry.mk (PyData.keyHash P (Str.ofString "__doc__")) (Value.str (Str.ofString "__doc__") 166) Value.none), (DictEntry.mk (PyData.keyHash P (Str.ofString "__package__")) (Value.str (Str.ofString "__package__") 167) Value.none), (DictEntry.mk (PyData.keyHash P (Str.ofString "__loader__")) (Value.str (Str.ofString "__loader__") 168) (Value.builtin "__main__.__loader__#opaque")), (DictEntry.mk (PyData.keyHash P (Str.ofString "__spec__")) (Value.str (Str.ofString "__spec__") 169) Value.none), (DictEntry.mk (PyData.keyHash P (Str.ofString "__annotations__")) (Value.str (Str.ofString "__annotations__") 170) (Value.ref 6)), (DictEntry.mk (PyData.keyHash P (Str.ofString "__builtins__")) (Value.str (Str.ofString "__builtins__") 171) (Value.ref 4)), (DictEntry.mk (PyData.keyHash P (Str.ofString "__file__")) (Value.str (Str.ofString "__file__") 173) (Value.str (Str.ofString "/claim/cut.py") 172)), (DictEntry.mk (PyData.keyHash P (Str.ofString "__cached__")) (Value.str (Str.ofString "__cached__") 174) Value.none), (DictEntry.mk (PyData.keyHash P (Str.ofString "_int2digits")) (Value.str (Str.ofString "_int2digits") 199) (Value.ref 21)), (DictEntry.mk (PyData.keyHash P (Str.ofString "_digits2int")) (Value.str (Str.ofString "_digits2int") 210) (Value.ref 28)), (DictEntry.mk (PyData.keyHash P (Str.ofString "bisect_left")) (Value.str (Str.ofString "bisect_left") 226) (Value.ref 37))]) 12) (List.toArray []))
noncomputable abbrev oA_12 (P : Params) : Obj := (Obj.mk Value.none none (Data.fields (List.toArray [(Value.int (2 : Int) 0), (Value.int (0 : Int) 0), (Value.ref 20), (Value.int (18 : Int) 0), (Value.int (0 : Int) 0), (Value.ref 27), (Value.int (28 : Int) 0), (Value.int (0 : Int) 0), (Value.ref 36)])) (List.toArray []))
noncomputable abbrev oA_15 (P : Params) : Obj := (Obj.mk (Value.type "tuple") none (Data.seq (List.toArray []) 0) (List.toArray []))
noncomputable abbrev oA_16 (P : Params) : Obj := (Obj.mk Value.none none (Data.fields (List.toArray [])) (List.toArray []))
noncomputable abbrev oA_17 (P : Params) : Obj := (Obj.mk (Value.type "tuple") none (Data.seq (List.toArray [(Value.str (Str.ofString "a") 192), (Value.str (Str.ofString "n") 193)]) 0) (List.toArray []))
noncomputable abbrev oA_18 (P : Params) : Obj := (Obj.mk (Value.type "tuple") none (Data.seq (List.toArray [(Value.str (Str.ofString "n") 194), (Value.str (Str.ofString "a_digits") 195), (Value.str (Str.ofString "inner") 196)]) 0) (List.toArray []))
noncomputable abbrev oA_19 (P : Params) : Obj := (Obj.mk Value.none none (Data.func { name := (Str.ofString "_int2digits"), qualname := (Str.ofString "_int2digits"), params := fargs (pst 1), body := .stmts (fbody (pst 1)), scope := fscope (pst 1), globals := 0, closure := [], defaults := Value.none, kwdefaults := Value.none, doc := Value.none, pyModule := Value.none, annotations := none, code := Value.none, closureTuple := Value.none, builtins := 0 }) (List.toArray []))
noncomputable abbrev oA_20 (P : Params) : Obj := (Obj.mk (Value.type "code") none (Data.fields (List.toArray [(Value.str (Str.ofString "_int2digits") 189), (Value.str (Str.ofString "_int2digits") 190), (Value.str (Str.ofString "/claim/cut.py") 191), (Value.int (2 : Int) 0), (Value.int (2 : Int) 0), (Value.int (0 : Int) 0), (Value.int (0 : Int) 0), (Value.int (3 : Int) 0), (Value.ref 15), (Value.bool Bool.true), (Value.int (181 : Int) 0), (Value.ref 16), Value.none, (Value.ref 17), (Value.ref 18), (Value.ref 19), (Value.int (197 : Int) 0), (Value.int (2 : Int) 0), (Value.str (Str.ofString "/claim/cut.py") 198)])) (List.toArray []))
noncomputable abbrev oA_21 (P : Params) : Obj := (Obj.mk (Value.type "function") none (Data.func { name := (Str.ofString "_int2digits"), qualname := (Str.ofString "_int2digits"), params := fargs (pst 1), body := .stmts (fbody (pst 1)), scope := fscope (pst 1), globals := 3, closure := [], defaults := Value.none, kwdefaults := Value.none, doc := Value.none, pyModule := (Value.str (Str.ofString "cpy313._pylong") 187), annotations := none, code := (Value.ref 20), closureTuple := Value.none, builtins := 0 }) (List.toArray []))
noncomputable abbrev oA_22 (P : Params) : Obj := (Obj.mk (Value.type "tuple") none (Data.seq (List.toArray []) 0) (List.toArray []))
noncomputable abbrev oA_23 (P : Params) : Obj := (Obj.mk Value.none none (Data.fields (List.toArray [])) (List.toArray []))
noncomputable abbrev oA_24 (P : Params) : Obj := (Obj.mk (Value.type "tuple") none (Data.seq (List.toArray [(Value.str (Str.ofString "digits") 203), (Value.str (Str.ofString "n") 204)]) 0) (List.toArray []))
noncomputable abbrev oA_25 (P : Params) : Obj := (Obj.mk (Value.type "tuple") none (Data.seq (List.toArray [(Value.str (Str.ofString "digits") 205), (Value.str (Str.ofString "n") 206), (Value.str (Str.ofString "inner") 207)]) 0) (List.toArray []))
noncomputable abbrev oA_26 (P : Params) : Obj := (Obj.mk Value.none none (Data.func { name := (Str.ofString "_digits2int"), qualname := (Str.ofString "_digits2int"), params := fargs (pst 2), body := .stmts (fbody (pst 2)), scope := fscope (pst 2), globals := 0, closure := [], defaults := Value.none, kwdefaults := Value.none, doc := Value.none, pyModule := Value.none, annotations := none, code := Value.none, closureTuple := Value.none, builtins := 0 }) (List.toArray []))
noncomputable abbrev oA_27 (P : Params) : Obj := (Obj.mk (Value.type "code") none (Data.fields (List.toArray [(Value.str (Str.ofString "_digits2int") 200), (Value.str (Str.ofString "_digits2int") 201), (Value.str (Str.ofString "/claim/cut.py") 202), (Value.int (18 : Int) 0), (Value.int (2 : Int) 0), (Value.int (0 : Int) 0), (Value.int (0 : Int) 0), (Value.int (3 : Int) 0), (Value.ref 22), (Value.bool Bool.true), (Value.int (181 : Int) 0), (Value.ref 23), Value.none, (Value.ref 24), (Value.ref 25), (Value.ref 26), (Value.int (208 : Int) 0), (Value.int (18 : Int) 0), (Value.str (Str.ofString "/claim/cut.py") 209)])) (List.toArray []))
noncomputable abbrev oA_28 (P : Params) : Obj := (Obj.mk (Value.type "function") none (Data.func { name := (Str.ofString "_digits2int"), qualname := (Str.ofString "_digits2int"), params := fargs (pst 2), body := .stmts (fbody (pst 2)), scope := fscope (pst 2), globals := 3, closure := [], defaults := Value.none, kwdefaults := Value.none, doc := Value.none, pyModule := (Value.str (Str.ofString "cpy313._pylong") 187), annotations := none, code := (Value.ref 27), closureTuple := Value.none, builtins := 0 }) (List.toArray []))
noncomputable abbrev oA_29 (P : Params) : Obj := (Obj.mk (Value.type "tuple") none (Data.seq (List.toArray [(Value.int (0 : Int) 213), Value.none]) 0) (List.toArray []))
noncomputable abbrev oA_30 (P : Params) : Obj := (Obj.mk (Value.type "dict") none (Data.dict (List.toArray [(DictEntry.mk (PyData.keyHash P (Str.ofString "key")) (Value.str (Str.ofString "key") 214) Value.none)]) 1) (List.toArray []))
noncomputable abbrev oA_31 (P : Params) : Obj := (Obj.mk (Value.type "tuple") none (Data.seq (List.toArray []) 0) (List.toArray []))
noncomputable abbrev oA_32 (P : Params) : Obj := (Obj.mk Value.none none (Data.fields (List.toArray [])) (List.toArray []))
noncomputable abbrev oA_33 (P : Params) : Obj := (Obj.mk (Value.type "tuple") none (Data.seq (List.toArray [(Value.str (Str.ofString "a") 218), (Value.str (Str.ofString "x") 219), (Value.str (Str.ofString "lo") 220), (Value.str (Str.ofString "hi") 221), (Value.str (Str.ofString "key") 222), (Value.str (Str.ofString "mid") 223)]) 0) (List.toArray []))
noncomputable abbrev oA_34 (P : Params) : Obj := (Obj.mk (Value.type "tuple") none (Data.seq (List.toArray []) 0) (List.toArray []))
noncomputable abbrev oA_35 (P : Params) : Obj := (Obj.mk Value.none none (Data.func { name := (Str.ofString "bisect_left"), qualname := (Str.ofString "bisect_left"), params := fargs (pst 4), body := .stmts (fbody (pst 4)), scope := fscope (pst 4), globals := 0, closure := [], defaults := Value.none, kwdefaults := Value.none, doc := Value.none, pyModule := Value.none, annotations := none, code := Value.none, closureTuple := Value.none, builtins := 0 }) (List.toArray []))
noncomputable abbrev oA_36 (P : Params) : Obj := (Obj.mk (Value.type "code") none (Data.fields (List.toArray [(Value.str (Str.ofString "bisect_left") 215), (Value.str (Str.ofString "bisect_left") 216), (Value.str (Str.ofString "/claim/cut.py") 217), (Value.int (28 : Int) 0), (Value.int (4 : Int) 0), (Value.int (0 : Int) 0), (Value.int (1 : Int) 0), (Value.int (3 : Int) 0), (Value.ref 31), (Value.bool Bool.true), (Value.int (181 : Int) 0), (Value.ref 32), Value.none, (Value.ref 33), (Value.ref 34), (Value.ref 35), (Value.int (224 : Int) 0), (Value.int (28 : Int) 0), (Value.str (Str.ofString "/claim/cut.py") 225)])) (List.toArray []))
noncomputable abbrev oA_37 (P : Params) : Obj := (Obj.mk (Value.type "function") none (Data.func { name := (Str.ofString "bisect_left"), qualname := (Str.ofString "bisect_left"), params := fargs (pst 4), body := .stmts (fbody (pst 4)), scope := fscope (pst 4), globals := 3, closure := [], defaults := (Value.ref 29), kwdefaults := (Value.ref 30), doc := Value.none, pyModule := (Value.str (Str.ofString "cpy313.bisect") 211), annotations := none, code := (Value.ref 36), closureTuple := Value.none, builtins := 0 }) (List.toArray []))
noncomputable abbrev tA (P : Params) : BT := (.node (boot_o_0 P) (.node (boot_o_1 P) (.node (oA_3 P) (.node (boot_o_7 P) (.node (oA_15 P) (.node (oA_31 P) .nil .nil) .nil) (.node (oA_23 P) .nil .nil)) (.node (oa_11 P) (.node (oA_19 P) (.node (oA_35 P) .nil .nil) .nil) (.node (oA_27 P) .nil .nil))) (.node (boot_o_5 P) (.node (boot_o_9 P) (.node (oA_17 P) (.node (oA_33 P) .nil .nil) .nil) (.node (oA_25 P) .nil .nil)) (.node (oa_13 P) (.node (oA_21 P) (.node (oA_37 P) .nil .nil) .nil) (.node (oA_29 P) .nil .nil)))) (.node (boot_o_2 P) (.node (boot_o_4 P) (.node (boot_o_8 P) (.node (oA_16 P) (.node (oA_32 P) .nil .nil) .nil) (.node (oA_24 P) .nil .nil)) (.node (oA_12 P) (.node (oA_20 P) (.node (oA_36 P) .nil .nil) .nil) (.node (oA_28 P) .nil .nil))) (.node (boot_o_6 P) (.node (boot_o_10 P) (.node (oA_18 P) (.node (oA_34 P) .nil .nil) .nil) (.node (oA_26 P) .nil .nil)) (.node (oa_14 P) (.node (oA_22 P) .nil .nil) (.node (oA_30 P) .nil .nil)))))
noncomputable abbrev oB_3 (P : Params) : Obj := (Obj.mk (Value.type "dict") none (Data.dict (List.toArray [(DictEntry.mk (PyData.keyHash P (Str.ofString "__name__")) (Value.str (Str.ofString "__name__") 165) (Value.str (Str.ofString "cpy313.stringprep") 227)), (DictEntry.mk (PyData.keyHash P (Str.ofString "__doc__")) (Value.str (Str.ofString "__doc__") 166) Value.none), (DictEntry.mk (PyData.keyHash P (Str.ofString "__package__")) (Value.str (Str.ofString "__package__") 167) Value.none), (DictEntry.mk (PyData.keyHash P (Str.ofString "__loader__")) (Value.str (Str.ofString "__loader__") 168) (Value.builtin "__main__.__loader__#opaque")), (DictEntry.mk (PyData.keyHash P (Str.ofString "__spec__")) (Value.str (Str.ofString "__spec__") 169) Value.none), (DictEntry.mk (PyData.keyHash P (Str.ofString "__annotations__")) (Value.str (Str.ofString "__annotations__") 170) (Value.ref 6)), (DictEntry.mk (PyData.keyHash P (Str.ofString "__builtins__")) (Value.str (Str.ofString "__builtins__") 171) (Value.ref 4)), (DictEntry.mk (PyData.keyHash P (Str.ofString "__file__")) (Value.str (Str.ofString "__file__") 173) (Value.str (Str.ofString "/claim/cut.py") 172)), (DictEntry.mk (PyData.keyHash P (Str.ofString "__cached__")) (Value.str (Str.ofString "__cached__") 174) Value.none), (DictEntry.mk (PyData.keyHash P (Str.ofString "_int2digits")) (Value.str (Str.ofString "_int2digits") 199) (Value.ref 21)), (DictEntry.mk (PyData.keyHash P (Str.ofString "_digits2int")) (Value.str (Str.ofString "_digits2int") 210) (Value.ref 28)), (DictEntry.mk (PyData.keyHash P (Str.ofString "bisect_left")) (Value.str (Str.ofString "bisect_left") 226) (Value.ref 37)), (DictEntry.mk (PyData.keyHash P (Str.ofString "b1_set")) (Value.str (Str.ofString "b1_set") 288) (Value.ref 45))]) 13) (List.toArray []))
noncomputable abbrev oB_38 (P : Params) : Obj := (Obj.mk (Value.type "list") none (Data.seq (List.toArray [(Value.int (173 : Int) 229), (Value.int (847 : Int) 230), (Value.int (6150 : Int) 231), (Value.int (6155 : Int) 232), (Value.int (6156 : Int) 233), (Value.int (6157 : Int) 234), (Value.int (8203 : Int) 235), (Value.int (8204 : Int) 236), (Value.int (8205 : Int) 237), (Value.int (8288 : Int) 238), (Value.int (65279 : Int) 239)]) 0) (List.toArray []))
noncomputable abbrev oB_39 (P : Params) : Obj := (Obj.mk (Value.type "range") none (Data.fields (List.toArray [(Value.int (65024 : Int) 240), (Value.int (65040 : Int) 241), (Value.int (1 : Int) 242)])) (List.toArray []))
noncomputable abbrev oB_40 (P : Params) : Obj := (Obj.mk (Value.type "list") none (Data.seq (List.toArray [(Value.int (65024 : Int) 245), (Value.int (65025 : Int) 246), (Value.int (65026 : Int) 247), (Value.int (65027 : Int) 248), (Value.int (65028 : Int) 249), (Value.int (65029 : Int) 250), (Value.int (65030 : Int) 251), (Value.int (65031 : Int) 252), (Value.int (65032 : Int) 253), (Value.int (65033 : Int) 254), (Value.int (65034 : Int) 255), (Value.int (65035 : Int) 256), (Value.int (65036 : Int) 257), (Value.int (65037 : Int) 258), (Value.int (65038 : Int) 259), (Value.int (65039 : Int) 260)]) 18) (List.toArray []))
noncomputable abbrev oB_41 (P : Params) : Obj := (Obj.mk (Value.type "range_iterator") none (Data.fields (List.toArray [(Value.int (65040 : Int) 0), (Value.int (0 : Int) 0), (Value.int (1 : Int) 0)])) (List.toArray []))
noncomputable abbrev oB_42 (P : Params) : Obj := (Obj.mk (Value.type "tuple") none (Data.seq (List.toArray []) 0) (List.toArray []))
noncomputable abbrev oB_43 (P : Params) : Obj := (Obj.mk (Value.type "StopIteration") none (Data.fields (List.toArray [(Value.ref 42), Value.none, Value.none, Value.none, (Value.bool Bool.false), Value.none])) (List.toArray []))
noncomputable abbrev oB_44 (P : Params) : Obj := (Obj.mk (Value.type "list") none (Data.seq (List.toArray [(Value.int (173 : Int) 229), (Value.int (847 : Int) 230), (Value.int (6150 : Int) 231), (Value.int (6155 : Int) 232), (Value.int (6156 : Int) 233), (Value.int (6157 : Int) 234), (Value.int (8203 : Int) 235), (Value.int (8204 : Int) 236), (Value.int (8205 : Int) 237), (Value.int (8288 : Int) 238), (Value.int (65279 : Int) 239), (Value.int (65024 : Int) 245), (Value.int (65025 : Int) 246), (Value.int (65026 : Int) 247), (Value.int (65027 : Int) 248), (Value.int (65028 : Int) 249), (Value.int (65029 : Int) 250), (Value.int (65030 : Int) 251), (Value.int (65031 : Int) 252), (Value.int (65032 : Int) 253), (Value.int (65033 : Int) 254), (Value.int (65034 : Int) 255), (Value.int (65035 : Int) 256), (Value.int (65036 : Int) 257), (Value.int (65037 : Int) 258), (Value.int (65038 : Int) 259), (Value.int (65039 : Int) 260)]) 0) (List.toArray []))
noncomputable abbrev oB_45 (P : Params) : Obj := (Obj.mk (Value.type "set") none (Data.set (List.toArray [((65024 : Int), (Value.int (65024 : Int) 245)), ((65025 : Int), (Value.int (65025 : Int) 246)), ((65026 : Int), (Value.int (65026 : Int) 247)), ((65027 : Int), (Value.int (65027 : Int) 248)), ((65028 : Int), (Value.int (65028 : Int) 249)), ((65029 : Int), (Value.int (65029 : Int) 250)), ((6150 : Int), (Value.int (6150 : Int) 231)), ((65030 : Int), (Value.int (65030 : Int) 251)), ((65031 : Int), (Value.int (65031 : Int) 252)), ((65032 : Int), (Value.int (65032 : Int) 253)), ((65033 : Int), (Value.int (65033 : Int) 254)), ((6155 : Int), (Value.int (6155 : Int) 232)), ((6156 : Int), (Value.int (6156 : Int) 233)), ((6157 : Int), (Value.int (6157 : Int) 234)), ((8203 : Int), (Value.int (8203 : Int) 235)), ((8204 : Int), (Value.int (8204 : Int) 236)), ((8205 : Int), (Value.int (8205 : Int) 237)), ((65034 : Int), (Value.int (65034 : Int) 255)), ((65035 : Int), (Value.int (65035 : Int) 256)), ((65036 : Int), (Value.int (65036 : Int) 257)), ((65037 : Int), (Value.int (65037 : Int) 258)), ((65038 : Int), (Value.int (65038 : Int) 259)), ((65039 : Int), (Value.int (65039 : Int) 260)), ((173 : Int), (Value.int (173 : Int) 229)), ((847 : Int), (Value.int (847 : Int) 230)), ((8288 : Int), (Value.int (8288 : Int) 238)), ((65279 : Int), (Value.int (65279 : Int) 239))]) 29 (SetTable.mk 127 (List.toArray [0, 1, 2, 3, 4, 5, 6, 7, 8, 9, 10, 11, 12, 13, 14, 15, 16, 17, 18, 19, 20, 21, 22, 45, 79, 96, 127]) (List.toArray []) 0 (!P.followText "set-order") 2 Bool.true)) (List.toArray []))
noncomputable abbrev oB_46 (P : Params) : Obj := (Obj.mk (Value.type "list_iterator") none (Data.fields (List.toArray [Value.none, (Value.int (27 : Int) 0)])) (List.toArray []))
noncomputable abbrev oB_47 (P : Params) : Obj := (Obj.mk (Value.type "tuple") none (Data.seq (List.toArray []) 0) (List.toArray []))
noncomputable abbrev oB_48 (P : Params) : Obj := (Obj.mk (Value.type "StopIteration") none (Data.fields (List.toArray [(Value.ref 47), Value.none, Value.none, Value.none, (Value.bool Bool.false), Value.none])) (List.toArray []))
noncomputable abbrev tB (P : Params) : BT := (.node (boot_o_0 P) (.node (boot_o_1 P) (.node (oB_3 P) (.node (boot_o_7 P) (.node (oA_15 P) (.node (oA_31 P) .nil .nil) (.node (oB_47 P) .nil .nil)) (.node (oA_23 P) (.node (oB_39 P) .nil .nil) .nil)) (.node (oa_11 P) (.node (oA_19 P) (.node (oA_35 P) .nil .nil) .nil) (.node (oA_27 P) (.node (oB_43 P) .nil .nil) .nil))) (.node (boot_o_5 P) (.node (boot_o_9 P) (.node (oA_17 P) (.node (oA_33 P) .nil .nil) .nil) (.node (oA_25 P) (.node (oB_41 P) .nil .nil) .nil)) (.node (oa_13 P) (.node (oA_21 P) (.node (oA_37 P) .nil .nil) .nil) (.node (oA_29 P) (.node (oB_45 P) .nil .nil) .nil)))) (.node (boot_o_2 P) (.node (boot_o_4 P) (.node (boot_o_8 P) (.node (oA_16 P) (.node (oA_32 P) .nil .nil) (.node (oB_48 P) .nil .nil)) (.node (oA_24 P) (.node (oB_40 P) .nil .nil) .nil)) (.node (oA_12 P) (.node (oA_20 P) (.node (oA_36 P) .nil .nil) .nil) (.node (oA_28 P) (.node (oB_44 P) .nil .nil) .nil))) (.node (boot_o_6 P) (.node (boot_o_10 P) (.node (oA_18 P) (.node (oA_34 P) .nil .nil) .nil) (.node (oA_26 P) (.node (oB_42 P) .nil .nil) .nil)) (.node (oa_14 P) (.node (oA_22 P) (.node (oB_38 P) .nil .nil) .nil) (.node (oA_30 P) (.node (oB_46 P) .nil .nil) .nil)))))
noncomputable abbrev oC_3 (P : Params) : Obj := (Obj.mk (Value.type "dict") none (Data.dict (List.toArray [(DictEntry.mk (PyData.keyHash P (Str.ofString "__name__")) (Value.str (Str.ofString "__name__") 165) (Value.str (Str.ofString "cpy313.stringprep") 227)), (DictEntry.mk (PyData.keyHash P (Str.ofString "__doc__")) (Value.str (Str.ofString "__doc__") 166) Value.none), (DictEntry.mk (PyData.keyHash P (Str.ofString "__package__")) (Value.str (Str.ofString "__package__") 167) Value.none), (DictEntry.mk (PyData.keyHash P (Str.ofString "__loader__")) (Value.str (Str.ofString "__loader__") 168) (Value.builtin "__main__.__loader__#opaque")), (DictEntry.mk (PyData.keyHash P (Str.ofString "__spec__")) (Value.str (Str.ofString "__spec__") 169) Value.none), (DictEntry.mk (PyData.keyHash P (Str.ofString "__annotations__")) (Value.str (Str.ofString "__annotations__") 170) (Value.ref 6)), (DictEntry.mk (PyData.keyHash P (Str.ofString "__builtins__")) (Value.str (Str.ofString "__builtins__") 171) (Value.ref 4)), (DictEntry.mk (PyData.keyHash P (Str.ofString "__file__")) (Value.str (Str.ofString "__file__") 173) (Value.str (Str.ofString "/claim/cut.py") 172)), (DictEntry.mk (PyData.keyHash P (Str.ofString "__cached__")) (Value.str (Str.ofString "__cached__") 174) Value.none), (DictEntry.mk (PyData.keyHash P (Str.ofString "_int2digits")) (Value.str (Str.ofString "_int2digits") 199) (Value.ref 21)), (DictEntry.mk (PyData.keyHash P (Str.ofString "_digits2int")) (Value.str (Str.ofString "_digits2int") 210) (Value.ref 28)), (DictEntry.mk (PyData.keyHash P (Str.ofString "bisect_left")) (Value.str (Str.ofString "bisect_left") 226) (Value.ref 37)), (DictEntry.mk (PyData.keyHash P (Str.ofString "b1_set")) (Value.str (Str.ofString "b1_set") 288) (Value.ref 45)), (DictEntry.mk (PyData.keyHash P (Str.ofString "in_table_b1")) (Value.str (Str.ofString "in_table_b1") 295) (Value.ref 55))]) 14) (List.toArray []))
noncomputable abbrev oC_12 (P : Params) : Obj := (Obj.mk Value.none none (Data.fields (List.toArray [(Value.int (2 : Int) 0), (Value.int (0 : Int) 0), (Value.ref 20), (Value.int (18 : Int) 0), (Value.int (0 : Int) 0), (Value.ref 27), (Value.int (28 : Int) 0), (Value.int (0 : Int) 0), (Value.ref 36), (Value.int (50 : Int) 0), (Value.int (0 : Int) 0), (Value.ref 54)])) (List.toArray []))
noncomputable abbrev oC_49 (P : Params) : Obj := (Obj.mk (Value.type "tuple") none (Data.seq (List.toArray []) 0) (List.toArray []))
noncomputable abbrev oC_50 (P : Params) : Obj := (Obj.mk Value.none none (Data.fields (List.toArray [])) (List.toArray []))
noncomputable abbrev oC_51 (P : Params) : Obj := (Obj.mk (Value.type "tuple") none (Data.seq (List.toArray [(Value.str (Str.ofString "code") 292)]) 0) (List.toArray []))
noncomputable abbrev oC_52 (P : Params) : Obj := (Obj.mk (Value.type "tuple") none (Data.seq (List.toArray []) 0) (List.toArray []))
noncomputable abbrev oC_53 (P : Params) : Obj := (Obj.mk Value.none none (Data.func { name := (Str.ofString "in_table_b1"), qualname := (Str.ofString "in_table_b1"), params := fargs (pst 7), body := .stmts (fbody (pst 7)), scope := fscope (pst 7), globals := 0, closure := [], defaults := Value.none, kwdefaults := Value.none, doc := Value.none, pyModule := Value.none, annotations := none, code := Value.none, closureTuple := Value.none, builtins := 0 }) (List.toArray []))
noncomputable abbrev oC_54 (P : Params) : Obj := (Obj.mk (Value.type "code") none (Data.fields (List.toArray [(Value.str (Str.ofString "in_table_b1") 289), (Value.str (Str.ofString "in_table_b1") 290), (Value.str (Str.ofString "/claim/cut.py") 291), (Value.int (50 : Int) 0), (Value.int (1 : Int) 0), (Value.int (0 : Int) 0), (Value.int (0 : Int) 0), (Value.int (3 : Int) 0), (Value.ref 49), (Value.bool Bool.true), (Value.int (181 : Int) 0), (Value.ref 50), Value.none, (Value.ref 51), (Value.ref 52), (Value.ref 53), (Value.int (293 : Int) 0), (Value.int (50 : Int) 0), (Value.str (Str.ofString "/claim/cut.py") 294)])) (List.toArray []))
noncomputable abbrev oC_55 (P : Params) : Obj := (Obj.mk (Value.type "function") none (Data.func { name := (Str.ofString "in_table_b1"), qualname := (Str.ofString "in_table_b1"), params := fargs (pst 7), body := .stmts (fbody (pst 7)), scope := fscope (pst 7), globals := 3, closure := [], defaults := Value.none, kwdefaults := Value.none, doc := Value.none, pyModule := (Value.str (Str.ofString "cpy313.stringprep") 227), annotations := none, code := (Value.ref 54), closureTuple := Value.none, builtins := 0 }) (List.toArray []))
noncomputable abbrev tC (P : Params) : BT := (.node (boot_o_0 P) (.node (boot_o_1 P) (.node (oC_3 P) (.node (boot_o_7 P) (.node (oA_15 P) (.node (oA_31 P) .nil .nil) (.node (oB_47 P) .nil .nil)) (.node (oA_23 P) (.node (oB_39 P) .nil .nil) (.node (oC_55 P) .nil .nil))) (.node (oa_11 P) (.node (oA_19 P) (.node (oA_35 P) .nil .nil) (.node (oC_51 P) .nil .nil)) (.node (oA_27 P) (.node (oB_43 P) .nil .nil) .nil))) (.node (boot_o_5 P) (.node (boot_o_9 P) (.node (oA_17 P) (.node (oA_33 P) .nil .nil) (.node (oC_49 P) .nil .nil)) (.node (oA_25 P) (.node (oB_41 P) .nil .nil) .nil)) (.node (oa_13 P) (.node (oA_21 P) (.node (oA_37 P) .nil .nil) (.node (oC_53 P) .nil .nil)) (.node (oA_29 P) (.node (oB_45 P) .nil .nil) .nil)))) (.node (boot_o_2 P) (.node (boot_o_4 P) (.node (boot_o_8 P) (.node (oA_16 P) (.node (oA_32 P) .nil .nil) (.node (oB_48 P) .nil .nil)) (.node (oA_24 P) (.node (oB_40 P) .nil .nil) .nil)) (.node (oC_12 P) (.node (oA_20 P) (.node (oA_36 P) .nil .nil) (.node (oC_52 P) .nil .nil)) (.node (oA_28 P) (.node (oB_44 P) .nil .nil) .nil))) (.node (boot_o_6 P) (.node (boot_o_10 P) (.node (oA_18 P) (.node (oA_34 P) .nil .nil) (.node (oC_50 P) .nil .nil)) (.node (oA_26 P) (.node (oB_42 P) .nil .nil) .nil)) (.node (oa_14 P) (.node (oA_22 P) (.node (oB_38 P) .nil .nil) (.node (oC_54 P) .nil .nil)) (.node (oA_30 P) (.node (oB_46 P) .nil .nil) .nil)))))
noncomputable abbrev lC (P : Params) : List Obj := [boot_o_0 P, boot_o_1 P, boot_o_2 P, oC_3 P, boot_o_4 P, boot_o_5 P, boot_o_6 P, boot_o_7 P, boot_o_8 P, boot_o_9 P, boot_o_10 P, oa_11 P, oC_12 P, oa_13 P, oa_14 P, oA_15 P, oA_16 P, oA_17 P, oA_18 P, oA_19 P, oA_20 P, oA_21 P, oA_22 P, oA_23 P, oA_24 P, oA_25 P, oA_26 P, oA_27 P, oA_28 P, oA_29 P, oA_30 P, oA_31 P, oA_32 P, oA_33 P, oA_34 P, oA_35 P, oA_36 P, oA_37 P, oB_38 P, oB_39 P, oB_40 P, oB_41 P, oB_42 P, oB_43 P, oB_44 P, oB_45 P, oB_46 P, oB_47 P, oB_48 P, oC_49 P, oC_50 P, oC_51 P, oC_52 P, oC_53 P, oC_54 P, oC_55 P]
noncomputable abbrev oD_3 (P : Params) : Obj := (Obj.mk (Value.type "dict") none (Data.dict (List.toArray [(DictEntry.mk (PyData.keyHash P (Str.ofString "__name__")) (Value.str (Str.ofString "__name__") 165) (Value.str (Str.ofString "cpy313.stringprep") 227)), (DictEntry.mk (PyData.keyHash P (Str.ofString "__doc__")) (Value.str (Str.ofString "__doc__") 166) Value.none), (DictEntry.mk (PyData.keyHash P (Str.ofString "__package__")) (Value.str (Str.ofString "__package__") 167) Value.none), (DictEntry.mk (PyData.keyHash P (Str.ofString "__loader__")) (Value.str (Str.ofString "__loader__") 168) (Value.builtin "__main__.__loader__#opaque")), (DictEntry.mk (PyData.keyHash P (Str.ofString "__spec__")) (Value.str (Str.ofString "__spec__") 169) Value.none), (DictEntry.mk (PyData.keyHash P (Str.ofString "__annotations__")) (Value.str (Str.ofString "__annotations__") 170) (Value.ref 6)), (DictEntry.mk (PyData.keyHash P (Str.ofString "__builtins__")) (Value.str (Str.ofString "__builtins__") 171) (Value.ref 4)), (DictEntry.mk (PyData.keyHash P (Str.ofString "__file__")) (Value.str (Str.ofString "__file__") 173) (Value.str (Str.ofString "/claim/cut.py") 172)), (DictEntry.mk (PyData.keyHash P (Str.ofString "__cached__")) (Value.str (Str.ofString "__cached__") 174) Value.none), (DictEntry.mk (PyData.keyHash P (Str.ofString "_int2digits")) (Value.str (Str.ofString "_int2digits") 199) (Value.ref 21)), (DictEntry.mk (PyData.keyHash P (Str.ofString "_digits2int")) (Value.str (Str.ofString "_digits2int") 210) (Value.ref 28)), (DictEntry.mk (PyData.keyHash P (Str.ofString "bisect_left")) (Value.str (Str.ofString "bisect_left") 226) (Value.ref 37)), (DictEntry.mk (PyData.keyHash P (Str.ofString "b1_set")) (Value.str (Str.ofString "b1_set") 288) (Value.ref 45)), (DictEntry.mk (PyData.keyHash P (Str.ofString "in_table_b1")) (Value.str (Str.ofString "in_table_b1") 295) (Value.ref 55)), (DictEntry.mk (PyData.keyHash P (Str.ofString "b3_exceptions")) (Value.str (Str.ofString "b3_exceptions") 2246) (Value.ref 56))]) 15) (List.toArray []))
noncomputable abbrev tD (P : Params) : BT := (.node (boot_o_0 P) (.node (boot_o_1 P) (.node (oD_3 P) (.node (boot_o_7 P) (.node (oA_15 P) (.node (oA_31 P) (.node (b3sub 6 P) .nil .nil) .nil) (.node (oB_47 P) (.node (b3sub 22 P) .nil .nil) .nil)) (.node (oA_23 P) (.node (oB_39 P) (.node (b3sub 14 P) .nil .nil) .nil) (.node (oC_55 P) (.node (b3sub 30 P) .nil .nil) .nil))) (.node (oa_11 P) (.node (oA_19 P) (.node (oA_35 P) (.node (b3sub 10 P) .nil .nil) .nil) (.node (oC_51 P) (.node (b3sub 26 P) .nil .nil) .nil)) (.node (oA_27 P) (.node (oB_43 P) (.node (b3sub 18 P) .nil .nil) .nil) (.node (b3sub 2 P) (.node (b3sub 34 P) .nil .nil) .nil)))) (.node (boot_o_5 P) (.node (boot_o_9 P) (.node (oA_17 P) (.node (oA_33 P) (.node (b3sub 8 P) .nil .nil) .nil) (.node (oC_49 P) (.node (b3sub 24 P) .nil .nil) .nil)) (.node (oA_25 P) (.node (oB_41 P) (.node (b3sub 16 P) .nil .nil) .nil) (.node (b3sub 0 P) (.node (b3sub 32 P) .nil .nil) .nil))) (.node (oa_13 P) (.node (oA_21 P) (.node (oA_37 P) (.node (b3sub 12 P) .nil .nil) .nil) (.node (oC_53 P) (.node (b3sub 28 P) .nil .nil) .nil)) (.node (oA_29 P) (.node (oB_45 P) (.node (b3sub 20 P) .nil .nil) .nil) (.node (b3sub 4 P) (.node (b3sub 36 P) .nil .nil) .nil))))) (.node (boot_o_2 P) (.node (boot_o_4 P) (.node (boot_o_8 P) (.node (oA_16 P) (.node (oA_32 P) (.node (b3sub 7 P) .nil .nil) .nil) (.node (oB_48 P) (.node (b3sub 23 P) .nil .nil) .nil)) (.node (oA_24 P) (.node (oB_40 P) (.node (b3sub 15 P) .nil .nil) .nil) (.node (b3main P) (.node (b3sub 31 P) .nil .nil) .nil))) (.node (oC_12 P) (.node (oA_20 P) (.node (oA_36 P) (.node (b3sub 11 P) .nil .nil) .nil) (.node (oC_52 P) (.node (b3sub 27 P) .nil .nil) .nil)) (.node (oA_28 P) (.node (oB_44 P) (.node (b3sub 19 P) .nil .nil) .nil) (.node (b3sub 3 P) (.node (b3sub 35 P) .nil .nil) .nil)))) (.node (boot_o_6 P) (.node (boot_o_10 P) (.node (oA_18 P) (.node (oA_34 P) (.node (b3sub 9 P) .nil .nil) .nil) (.node (oC_50 P) (.node (b3sub 25 P) .nil .nil) .nil)) (.node (oA_26 P) (.node (oB_42 P) (.node (b3sub 17 P) .nil .nil) .nil) (.node (b3sub 1 P) (.node (b3sub 33 P) .nil .nil) .nil))) (.node (oa_14 P) (.node (oA_22 P) (.node (oB_38 P) (.node (b3sub 13 P) .nil .nil) .nil) (.node (oC_54 P) (.node (b3sub 29 P) .nil .nil) .nil)) (.node (oA_30 P) (.node (oB_46 P) (.node (b3sub 21 P) .nil .nil) .nil) (.node (b3sub 5 P) (.node (b3sub 37 P) .nil .nil) .nil))))))
noncomputable abbrev oE_3 (P : Params) : Obj := (Obj.mk (Value.type "dict") none (Data.dict (List.toArray [(DictEntry.mk (PyData.keyHash P (Str.ofString "__name__")) (Value.str (Str.ofString "__name__") 165) (Value.str (Str.ofString "law_rs0184_01") 2255)), (DictEntry.mk (PyData.keyHash P (Str.ofString "__doc__")) (Value.str (Str.ofString "__doc__") 166) Value.none), (DictEntry.mk (PyData.keyHash P (Str.ofString "__package__")) (Value.str (Str.ofString "__package__") 167) Value.none), (DictEntry.mk (PyData.keyHash P (Str.ofString "__loader__")) (Value.str (Str.ofString "__loader__") 168) (Value.builtin "__main__.__loader__#opaque")), (DictEntry.mk (PyData.keyHash P (Str.ofString "__spec__")) (Value.str (Str.ofString "__spec__") 169) Value.none), (DictEntry.mk (PyData.keyHash P (Str.ofString "__annotations__")) (Value.str (Str.ofString "__annotations__") 170) (Value.ref 6)), (DictEntry.mk (PyData.keyHash P (Str.ofString "__builtins__")) (Value.str (Str.ofString "__builtins__") 171) (Value.ref 4)), (DictEntry.mk (PyData.keyHash P (Str.ofString "__file__")) (Value.str (Str.ofString "__file__") 173) (Value.str (Str.ofString "/claim/cut.py") 172)), (DictEntry.mk (PyData.keyHash P (Str.ofString "__cached__")) (Value.str (Str.ofString "__cached__") 174) Value.none), (DictEntry.mk (PyData.keyHash P (Str.ofString "_int2digits")) (Value.str (Str.ofString "_int2digits") 199) (Value.ref 21)), (DictEntry.mk (PyData.keyHash P (Str.ofString "_digits2int")) (Value.str (Str.ofString "_digits2int") 210) (Value.ref 28)), (DictEntry.mk (PyData.keyHash P (Str.ofString "bisect_left")) (Value.str (Str.ofString "bisect_left") 226) (Value.ref 37)), (DictEntry.mk (PyData.keyHash P (Str.ofString "b1_set")) (Value.str (Str.ofString "b1_set") 288) (Value.ref 45)), (DictEntry.mk (PyData.keyHash P (Str.ofString "in_table_b1")) (Value.str (Str.ofString "in_table_b1") 295) (Value.ref 55)), (DictEntry.mk (PyData.keyHash P (Str.ofString "b3_exceptions")) (Value.str (Str.ofString "b3_exceptions") 2246) (Value.ref 56)), (DictEntry.mk (PyData.keyHash P (Str.ofString "map_table_b3")) (Value.str (Str.ofString "map_table_b3") 2254) (Value.ref 101)), (DictEntry.mk (PyData.keyHash P (Str.ofString "_law_sign")) (Value.str (Str.ofString "_law_sign") 2262) (Value.ref 106)), (DictEntry.mk (PyData.keyHash P (Str.ofString "_law_prepared")) (Value.str (Str.ofString "_law_prepared") 2268) (Value.ref 111)), (DictEntry.mk (PyData.keyHash P (Str.ofString "law")) (Value.str (Str.ofString "law") 2274) (Value.ref 116))]) 19) (List.toArray []))
noncomputable abbrev oE_12 (P : Params) : Obj := (Obj.mk Value.none none (Data.fields (List.toArray [(Value.int (2 : Int) 0), (Value.int (0 : Int) 0), (Value.ref 20), (Value.int (18 : Int) 0), (Value.int (0 : Int) 0), (Value.ref 27), (Value.int (28 : Int) 0), (Value.int (0 : Int) 0), (Value.ref 36), (Value.int (50 : Int) 0), (Value.int (0 : Int) 0), (Value.ref 54), (Value.int (53 : Int) 0), (Value.int (0 : Int) 0), (Value.ref 100), (Value.int (59 : Int) 0), (Value.int (0 : Int) 0), (Value.ref 105), (Value.int (77 : Int) 0), (Value.int (0 : Int) 0), (Value.ref 110), (Value.int (79 : Int) 0), (Value.int (0 : Int) 0), (Value.ref 115)])) (List.toArray []))
noncomputable abbrev oE_95 (P : Params) : Obj := (Obj.mk (Value.type "tuple") none (Data.seq (List.toArray []) 0) (List.toArray []))
noncomputable abbrev oE_96 (P : Params) : Obj := (Obj.mk Value.none none (Data.fields (List.toArray [])) (List.toArray []))
noncomputable abbrev oE_97 (P : Params) : Obj := (Obj.mk (Value.type "tuple") none (Data.seq (List.toArray [(Value.str (Str.ofString "code") 2250), (Value.str (Str.ofString "r") 2251)]) 0) (List.toArray []))
noncomputable abbrev oE_98 (P : Params) : Obj := (Obj.mk (Value.type "tuple") none (Data.seq (List.toArray []) 0) (List.toArray []))
noncomputable abbrev oE_99 (P : Params) : Obj := (Obj.mk Value.none none (Data.func { name := (Str.ofString "map_table_b3"), qualname := (Str.ofString "map_table_b3"), params := fargs (pst 9), body := .stmts (fbody (pst 9)), scope := fscope (pst 9), globals := 0, closure := [], defaults := Value.none, kwdefaults := Value.none, doc := Value.none, pyModule := Value.none, annotations := none, code := Value.none, closureTuple := Value.none, builtins := 0 }) (List.toArray []))
noncomputable abbrev oE_100 (P : Params) : Obj := (Obj.mk (Value.type "code") none (Data.fields (List.toArray [(Value.str (Str.ofString "map_table_b3") 2247), (Value.str (Str.ofString "map_table_b3") 2248), (Value.str (Str.ofString "/claim/cut.py") 2249), (Value.int (53 : Int) 0), (Value.int (1 : Int) 0), (Value.int (0 : Int) 0), (Value.int (0 : Int) 0), (Value.int (3 : Int) 0), (Value.ref 95), (Value.bool Bool.true), (Value.int (181 : Int) 0), (Value.ref 96), Value.none, (Value.ref 97), (Value.ref 98), (Value.ref 99), (Value.int (2252 : Int) 0), (Value.int (53 : Int) 0), (Value.str (Str.ofString "/claim/cut.py") 2253)])) (List.toArray []))
noncomputable abbrev oE_101 (P : Params) : Obj := (Obj.mk (Value.type "function") none (Data.func { name := (Str.ofString "map_table_b3"), qualname := (Str.ofString "map_table_b3"), params := fargs (pst 9), body := .stmts (fbody (pst 9)), scope := fscope (pst 9), globals := 3, closure := [], defaults := Value.none, kwdefaults := Value.none, doc := Value.none, pyModule := (Value.str (Str.ofString "cpy313.stringprep") 227), annotations := none, code := (Value.ref 100), closureTuple := Value.none, builtins := 0 }) (List.toArray []))
noncomputable abbrev oE_102 (P : Params) : Obj := (Obj.mk (Value.type "tuple") none (Data.seq (List.toArray []) 0) (List.toArray []))
noncomputable abbrev oE_103 (P : Params) : Obj := (Obj.mk Value.none none (Data.fields (List.toArray [])) (List.toArray []))
noncomputable abbrev oE_104 (P : Params) : Obj := (Obj.mk Value.none none (Data.func { name := (Str.ofString "_law_sign"), qualname := (Str.ofString "_law_sign"), params := fargs (pst 11), body := .stmts (fbody (pst 11)), scope := fscope (pst 11), globals := 0, closure := [], defaults := Value.none, kwdefaults := Value.none, doc := Value.none, pyModule := Value.none, annotations := none, code := Value.none, closureTuple := Value.none, builtins := 0 }) (List.toArray []))
noncomputable abbrev oE_105 (P : Params) : Obj := (Obj.mk (Value.type "code") none (Data.fields (List.toArray [(Value.str (Str.ofString "_law_sign") 2257), (Value.str (Str.ofString "_law_sign") 2258), (Value.str (Str.ofString "/claim/cut.py") 2259), (Value.int (59 : Int) 0), (Value.int (1 : Int) 0), (Value.int (0 : Int) 0), (Value.int (0 : Int) 0), (Value.int (3 : Int) 0), (Value.ref 102), (Value.bool Bool.true), (Value.int (181 : Int) 0), (Value.ref 103), Value.none, Value.none, Value.none, (Value.ref 104), (Value.int (2260 : Int) 0), (Value.int (59 : Int) 0), (Value.str (Str.ofString "/claim/cut.py") 2261)])) (List.toArray []))
noncomputable abbrev oE_106 (P : Params) : Obj := (Obj.mk (Value.type "function") none (Data.func { name := (Str.ofString "_law_sign"), qualname := (Str.ofString "_law_sign"), params := fargs (pst 11), body := .stmts (fbody (pst 11)), scope := fscope (pst 11), globals := 3, closure := [], defaults := Value.none, kwdefaults := Value.none, doc := Value.none, pyModule := (Value.str (Str.ofString "law_rs0184_01") 2255), annotations := none, code := (Value.ref 105), closureTuple := Value.none, builtins := 0 }) (List.toArray []))
noncomputable abbrev oE_107 (P : Params) : Obj := (Obj.mk (Value.type "tuple") none (Data.seq (List.toArray []) 0) (List.toArray []))
noncomputable abbrev oE_108 (P : Params) : Obj := (Obj.mk Value.none none (Data.fields (List.toArray [])) (List.toArray []))
noncomputable abbrev oE_109 (P : Params) : Obj := (Obj.mk Value.none none (Data.func { name := (Str.ofString "_law_prepared"), qualname := (Str.ofString "_law_prepared"), params := fargs (pst 12), body := .stmts (fbody (pst 12)), scope := fscope (pst 12), globals := 0, closure := [], defaults := Value.none, kwdefaults := Value.none, doc := Value.none, pyModule := Value.none, annotations := none, code := Value.none, closureTuple := Value.none, builtins := 0 }) (List.toArray []))
noncomputable abbrev oE_110 (P : Params) : Obj := (Obj.mk (Value.type "code") none (Data.fields (List.toArray [(Value.str (Str.ofString "_law_prepared") 2263), (Value.str (Str.ofString "_law_prepared") 2264), (Value.str (Str.ofString "/claim/cut.py") 2265), (Value.int (77 : Int) 0), (Value.int (1 : Int) 0), (Value.int (0 : Int) 0), (Value.int (0 : Int) 0), (Value.int (3 : Int) 0), (Value.ref 107), (Value.bool Bool.true), (Value.int (181 : Int) 0), (Value.ref 108), Value.none, Value.none, Value.none, (Value.ref 109), (Value.int (2266 : Int) 0), (Value.int (77 : Int) 0), (Value.str (Str.ofString "/claim/cut.py") 2267)])) (List.toArray []))
noncomputable abbrev oE_111 (P : Params) : Obj := (Obj.mk (Value.type "function") none (Data.func { name := (Str.ofString "_law_prepared"), qualname := (Str.ofString "_law_prepared"), params := fargs (pst 12), body := .stmts (fbody (pst 12)), scope := fscope (pst 12), globals := 3, closure := [], defaults := Value.none, kwdefaults := Value.none, doc := Value.none, pyModule := (Value.str (Str.ofString "law_rs0184_01") 2255), annotations := none, code := (Value.ref 110), closureTuple := Value.none, builtins := 0 }) (List.toArray []))
noncomputable abbrev oE_112 (P : Params) : Obj := (Obj.mk (Value.type "tuple") none (Data.seq (List.toArray []) 0) (List.toArray []))
noncomputable abbrev oE_113 (P : Params) : Obj := (Obj.mk Value.none none (Data.fields (List.toArray [])) (List.toArray []))
noncomputable abbrev oE_114 (P : Params) : Obj := (Obj.mk Value.none none (Data.func { name := (Str.ofString "law"), qualname := (Str.ofString "law"), params := fargs (pst 13), body := .stmts (fbody (pst 13)), scope := fscope (pst 13), globals := 0, closure := [], defaults := Value.none, kwdefaults := Value.none, doc := Value.none, pyModule := Value.none, annotations := none, code := Value.none, closureTuple := Value.none, builtins := 0 }) (List.toArray []))
noncomputable abbrev oE_115 (P : Params) : Obj := (Obj.mk (Value.type "code") none (Data.fields (List.toArray [(Value.str (Str.ofString "law") 2269), (Value.str (Str.ofString "law") 2270), (Value.str (Str.ofString "/claim/cut.py") 2271), (Value.int (79 : Int) 0), (Value.int (1 : Int) 0), (Value.int (0 : Int) 0), (Value.int (0 : Int) 0), (Value.int (3 : Int) 0), (Value.ref 112), (Value.bool Bool.true), (Value.int (181 : Int) 0), (Value.ref 113), Value.none, Value.none, Value.none, (Value.ref 114), (Value.int (2272 : Int) 0), (Value.int (79 : Int) 0), (Value.str (Str.ofString "/claim/cut.py") 2273)])) (List.toArray []))
noncomputable abbrev oE_116 (P : Params) : Obj := (Obj.mk (Value.type "function") none (Data.func { name := (Str.ofString "law"), qualname := (Str.ofString "law"), params := fargs (pst 13), body := .stmts (fbody (pst 13)), scope := fscope (pst 13), globals := 3, closure := [], defaults := Value.none, kwdefaults := Value.none, doc := Value.none, pyModule := (Value.str (Str.ofString "law_rs0184_01") 2255), annotations := none, code := (Value.ref 115), closureTuple := Value.none, builtins := 0 }) (List.toArray []))
noncomputable abbrev tE (P : Params) : BT := (.node (boot_o_0 P) (.node (boot_o_1 P) (.node (oE_3 P) (.node (boot_o_7 P) (.node (oA_15 P) (.node (oA_31 P) (.node (b3sub 6 P) .nil .nil) (.node (oE_95 P) .nil .nil)) (.node (oB_47 P) (.node (b3sub 22 P) .nil .nil) (.node (oE_111 P) .nil .nil))) (.node (oA_23 P) (.node (oB_39 P) (.node (b3sub 14 P) .nil .nil) (.node (oE_103 P) .nil .nil)) (.node (oC_55 P) (.node (b3sub 30 P) .nil .nil) .nil))) (.node (oa_11 P) (.node (oA_19 P) (.node (oA_35 P) (.node (b3sub 10 P) .nil .nil) (.node (oE_99 P) .nil .nil)) (.node (oC_51 P) (.node (b3sub 26 P) .nil .nil) (.node (oE_115 P) .nil .nil))) (.node (oA_27 P) (.node (oB_43 P) (.node (b3sub 18 P) .nil .nil) (.node (oE_107 P) .nil .nil)) (.node (b3sub 2 P) (.node (b3sub 34 P) .nil .nil) .nil)))) (.node (boot_o_5 P) (.node (boot_o_9 P) (.node (oA_17 P) (.node (oA_33 P) (.node (b3sub 8 P) .nil .nil) (.node (oE_97 P) .nil .nil)) (.node (oC_49 P) (.node (b3sub 24 P) .nil .nil) (.node (oE_113 P) .nil .nil))) (.node (oA_25 P) (.node (oB_41 P) (.node (b3sub 16 P) .nil .nil) (.node (oE_105 P) .nil .nil)) (.node (b3sub 0 P) (.node (b3sub 32 P) .nil .nil) .nil))) (.node (oa_13 P) (.node (oA_21 P) (.node (oA_37 P) (.node (b3sub 12 P) .nil .nil) (.node (oE_101 P) .nil .nil)) (.node (oC_53 P) (.node (b3sub 28 P) .nil .nil) .nil)) (.node (oA_29 P) (.node (oB_45 P) (.node (b3sub 20 P) .nil .nil) (.node (oE_109 P) .nil .nil)) (.node (b3sub 4 P) (.node (b3sub 36 P) .nil .nil) .nil))))) (.node (boot_o_2 P) (.node (boot_o_4 P) (.node (boot_o_8 P) (.node (oA_16 P) (.node (oA_32 P) (.node (b3sub 7 P) .nil .nil) (.node (oE_96 P) .nil .nil)) (.node (oB_48 P) (.node (b3sub 23 P) .nil .nil) (.node (oE_112 P) .nil .nil))) (.node (oA_24 P) (.node (oB_40 P) (.node (b3sub 15 P) .nil .nil) (.node (oE_104 P) .nil .nil)) (.node (b3main P) (.node (b3sub 31 P) .nil .nil) .nil))) (.node (oE_12 P) (.node (oA_20 P) (.node (oA_36 P) (.node (b3sub 11 P) .nil .nil) (.node (oE_100 P) .nil .nil)) (.node (oC_52 P) (.node (b3sub 27 P) .nil .nil) (.node (oE_116 P) .nil .nil))) (.node (oA_28 P) (.node (oB_44 P) (.node (b3sub 19 P) .nil .nil) (.node (oE_108 P) .nil .nil)) (.node (b3sub 3 P) (.node (b3sub 35 P) .nil .nil) .nil)))) (.node (boot_o_6 P) (.node (boot_o_10 P) (.node (oA_18 P) (.node (oA_34 P) (.node (b3sub 9 P) .nil .nil) (.node (oE_98 P) .nil .nil)) (.node (oC_50 P) (.node (b3sub 25 P) .nil .nil) (.node (oE_114 P) .nil .nil))) (.node (oA_26 P) (.node (oB_42 P) (.node (b3sub 17 P) .nil .nil) (.node (oE_106 P) .nil .nil)) (.node (b3sub 1 P) (.node (b3sub 33 P) .nil .nil) .nil))) (.node (oa_14 P) (.node (oA_22 P) (.node (oB_38 P) (.node (b3sub 13 P) .nil .nil) (.node (oE_102 P) .nil .nil)) (.node (oC_54 P) (.node (b3sub 29 P) .nil .nil) .nil)) (.node (oA_30 P) (.node (oB_46 P) (.node (b3sub 21 P) .nil .nil) (.node (oE_110 P) .nil .nil)) (.node (b3sub 5 P) (.node (b3sub 37 P) .nil .nil) .nil))))))
end Mine
end
/-! text H2 -/
section
open PySem PySem.W PyProof.Rows PySem.Spec PySem.Calls
set_option maxRecDepth 100000
set_option linter.unusedVariables false
set_option maxHeartbeats 0
namespace Mine
noncomputable abbrev envT : Env := { scope := pw.main.scope, locals := mainNs, globals := mainNs, cells := [], code := .ref 13, frame := some 14 }
noncomputable abbrev bodyT : List Stmt := behindTheImports pw
noncomputable abbrev codeT : Code := .body bodyT envT
noncomputable abbrev annT : Option Value := some (.ref 6)
noncomputable abbrev stT (T : BT) (n k : Nat) (os : OsState) : SharedT := ⟨T, n, (PySem.Life.mk [] [] [] 0 [] [] Bool.false (List.toArray []) [] 0 Bool.false Bool.false Bool.false (0 : Int) [(2000 : Int), (10 : Int), (10 : Int)] Bool.false 0 Bool.true [] [] 0 Bool.false), #[], ⟨0, 0, 0, 0⟩, k, os⟩
noncomputable def sA : List Stmt := [pst 0, pst 1, pst 2, pst 3, pst 4, pst 5]
theorem pieceA : ∀ w : World, (fun os => segRunT treeTable pw w 11 annT 1 135 (stT (ta w.params) 15 187 os) (piecesOf sA envT codeT ⟨0,0,0,0⟩ [topFrame ⟨0,0,0,0⟩])) = fun os => some (Flow.next, stT (tA w.params) 38 229 os, codeT, ⟨48, 0, 48, 8⟩) := fun w => by kernel_rfl
end Mine
namespace Mine
theorem piecePre : ∀ w : World, (fun os => topGo treeTable pw w 11 annT 12 ⟨boot_heap w.params, Array.mk [], boot_drawn, boot_toks, os⟩ (topStub pw)) = fun os => some ((stT (ta w.params) 15 187 os).abs, ⟨denote treeTable codeT, codeT, ⟨0,0,0,0⟩, [topFrame ⟨0,0,0,0⟩]⟩) := fun w => by kernel_rfl
theorem pieceBlock : ∀ w : World, (fun os => segRun treeTable pw w 11 annT 1 1 (stT (ta w.params) 15 187 os).abs (blockOf bodyT envT codeT ⟨0,0,0,0⟩ [topFrame ⟨0,0,0,0⟩])) = fun os => some (Flow.next, (stT (ta w.params) 15 187 os).abs, codeT, ⟨0, 0, 0, 0⟩) := fun w => by kernel_rfl
noncomputable def sC : List Stmt := [pst 7]
theorem pieceC : ∀ w : World, (fun os => segRunT treeTable pw w 11 annT 1 30 (stT (tB w.params) 49 289 os) (piecesOf sC envT codeT ⟨49, 0, 49, 6⟩ [topFrame ⟨0,0,0,0⟩])) = fun os => some (Flow.next, stT (tC w.params) 56 296 os, codeT, ⟨50, 0, 51, 30⟩) := fun w => by kernel_rfl
noncomputable def sE : List Stmt := [pst 9, pst 10, pst 11, pst 12, pst 13]
theorem pieceE : ∀ w : World, (fun os => segRunT treeTable pw w 11 annT 1 118 (stT (tD w.params) 95 2247 os) (piecesOf sE envT codeT ⟨52, 0, 52, 13⟩ [topFrame ⟨0,0,0,0⟩])) = fun os => some (Flow.next, stT (tE w.params) 117 2275 os, codeT, ⟨79, 0, 125, 15⟩) := fun w => by kernel_rfl
theorem pieceFin : ∀ w : World, (fun os => topRun treeTable pw w 11 annT 2 (stT (tE w.params) 117 2275 os).abs ⟨doneF .next, codeT, ⟨79, 0, 125, 15⟩, [topFrame ⟨0,0,0,0⟩]⟩) = fun os => some (stT (tE w.params) 117 2275 os).abs := fun w => by kernel_rfl
end Mine
end
/-! text H3 -/
section
open PySem PySem.W PyProof.Rows PySem.Spec PySem.Calls
set_option maxRecDepth 100000
set_option linter.unusedVariables false
set_option maxHeartbeats 0
namespace Mine
noncomputable def lnewQ : { b : Builtin // Builtin.«list.__new__» = b } := by
  refine ⟨?b, ?h⟩
  case h =>
    delta Builtin.«list.__new__»
    rw [splitQ_eq]
noncomputable def tbl (id : String) : Option Builtin := bif Nat.beq (PySem.code id) 29827186395103491167075199597 then some lnewQ.1 else treeTable id
theorem tbl_eq : treeTable = tbl := by
  funext id
  unfold tbl
  cases h : Nat.beq (PySem.code id) 29827186395103491167075199597 with
  | false => rfl
  | true =>
    have e : PySem.code id = PySem.code "list.__new__" := (Nat.eq_of_beq_eq_true h).trans (by kernel_rfl)
    rw [code_inj _ _ e]
    show treeTable "list.__new__" = some lnewQ.1
    rw [← lnewQ.2]
    kernel_rfl
noncomputable def sB : List Stmt := [pst 6]
noncomputable abbrev PB (w : World) : Prop := (fun os => segRunT tbl pw w 11 annT 1 999 (stT (tA w.params) 38 229 os) (piecesOf sB envT codeT ⟨48, 0, 48, 8⟩ [topFrame ⟨0,0,0,0⟩])) = fun os => some (Flow.next, stT (tB w.params) 49 289 os, codeT, ⟨49, 0, 49, 6⟩)
theorem pieceB00 : ∀ w : World, PB ((w.withFollow "special-get-raises" false).withFollow "set-order" false) := fun w => by kernel_rfl
end Mine
namespace Mine
theorem pieceB01 : ∀ w : World, PB ((w.withFollow "special-get-raises" true).withFollow "set-order" false) := fun w => by kernel_rfl
theorem pieceB10 : ∀ w : World, PB ((w.withFollow "special-get-raises" false).withFollow "set-order" true) := fun w => by kernel_rfl
theorem pieceB11 : ∀ w : World, PB ((w.withFollow "special-get-raises" true).withFollow "set-order" true) := fun w => by kernel_rfl
theorem pieceB (w : World) : PB w := by
  refine byRow2 "special-get-raises" (P := PB) (fun w => ?_) (fun w => ?_) w
  · have h : ∀ b : Bool, PB ((w.withFollow "special-get-raises" false).withFollow "set-order" b) := fun b => by
      cases b
      · exact pieceB00 w
      · exact pieceB10 w
    have := h ((w.withFollow "special-get-raises" false).params.followText "set-order")
    rwa [World.withFollow_self] at this
  · have h : ∀ b : Bool, PB ((w.withFollow "special-get-raises" true).withFollow "set-order" b) := fun b => by
      cases b
      · exact pieceB01 w
      · exact pieceB11 w
    have := h ((w.withFollow "special-get-raises" true).params.followText "set-order")
    rwa [World.withFollow_self] at this
end Mine
end
/-! text E1 -/
section
open PySem PySem.W PyProof.Rows PySem.Spec PySem.Calls
set_option maxRecDepth 100000
set_option linter.unusedVariables false
namespace Mine
/-! a straight run, step by step counted -/
noncomputable def hCode (i : Int) (t : Tok) : Code := .call (.builtin "int.__hash__") ⟨[.int i t], []⟩
theorem d1 (i : Int) (u : Tok) : denote treeTable (hCode i u) = .pure (.again (.builtin "int.__hash__" ⟨[.int i u], []⟩)) := by kernel_rfl
theorem d2 (i : Int) (u : Tok) : denote treeTable (.builtin "int.__hash__" ⟨[.int i u], []⟩) = .fresh fun t => .pure (.done (.ret (.int (rawHash i) t))) := by kernel_rfl
theorem seg_succ {tb : String → Option Builtin} {p : Program} {w : World} {n₀ : Nat} {ann : Option Value} {b N : Nat} {s s' : Shared} {t t' : Thread} (h1 : endAt b t = none) (h2 : stepOk n₀ ann t = true) (h3 : step (denote tb) p w s t = .go s' t') :
    segRun tb p w n₀ ann b (N + 1) s t = segRun tb p w n₀ ann b N s' t' := by
  rw [segRun, h1, h2, h3]
/-- what lies around a run -/
structure Rm (α : Type) where
  K : α → Sem PySem.Fin
  H : Value → Sem PySem.Fin
  gd : Bool → Bool
  lv : List Value → List Value
  b : List Stmt
  env : Env
  fr : Frame
  gs : Array GenState
  d : Drawn
  os : OsState
noncomputable abbrev runV (w : World) (N : Nat) (gs : Array GenState) (d : Drawn) (os : OsState) (h : Heap) (t : Nat) (cur : Sem PySem.Fin) (b : List Stmt) (env : Env) (p : Pos) (fr : Frame) := segRun treeTable pw w 11 annT 1 N ⟨h, gs, d, t, os⟩ ⟨cur, .body b env, p, [fr]⟩
/-- the tree runs, in n steps, from one heap to another, with this end -/
noncomputable def Ev (w : World) {α : Type} (n : Nat) (h : Heap) (t : Nat) (p : Pos) (x : Sem α) (h' : Heap) (t' : Nat) (p' : Pos) (a : α) : Prop :=
  ∀ (R : Rm α) (N : Nat) (r : Flow × Shared × Code × Pos), runV w N R.gs R.d R.os h' t' (R.K a) R.b R.env p' R.fr = some r → runV w (n + N) R.gs R.d R.os h t (x.wrap R.K R.H R.gd R.lv) R.b R.env p R.fr = some r
section
variable {w : World} {α β : Type} {n m : Nat} {h h' h'' : Heap} {t t' t'' : Nat} {p p' p'' q : Pos} {a : α} {b : β} {x : Sem α} {bd : Addr} {o : Obj} {part : Option Value}
theorem addS (n N : Nat) : n + 1 + N = n + N + 1 := by omega
theorem Ev.pure (a : α) : Ev w 0 h t p (.pure a) h t p a := fun R N r k => by rw [Nat.zero_add]; exact k
theorem Ev.rule {tag : String} {k : Unit → Sem α} (e : Ev w n h t p (k ()) h' t' p' a) : Ev w (n + 1) h t p (.rule tag k) h' t' p' a := fun R N r q => by rw [addS]; exact e R N r q
theorem Ev.at_ {k : Unit → Sem α} (e : Ev w n h t q (k ()) h' t' p' a) : Ev w (n + 1) h t p (.at q k) h' t' p' a := fun R N r q => by rw [addS]; exact e R N r q
theorem Ev.load {k : Obj → Sem α} (ho : h.get? bd = some o) (e : Ev w n h t p (k o) h' t' p' a) : Ev w (n + 1) h t p (.load bd part k) h' t' p' a := fun R N r q => by
  rw [addS]
  refine (seg_succ rfl rfl ?_).trans (e R N r q)
  show step _ _ _ _ ⟨.load bd part fun x => (k x).wrap R.K R.H R.gd R.lv, _, _, _⟩ = _
  simp only [step, ho]
theorem Ev.update {f : Obj → Obj} {k : Unit → Sem α} (hb : Nat.ble 11 bd = true) (ho : h.get? bd = some o) (e : Ev w n (h.update bd f) t p (k ()) h' t' p' a) : Ev w (n + 1) h t p (.update bd part f k) h' t' p' a := fun R N r q => by
  rw [addS]
  refine (seg_succ rfl ?_ ?_).trans (e R N r q)
  · show (true && (Nat.ble 11 bd || _ || _ || _)) = true
    rw [hb]; rfl
  · show step _ _ _ _ ⟨.update bd part f fun x => (k x).wrap R.K R.H R.gd R.lv, _, _, _⟩ = _
    simp only [step, ho, Option.isSome_some, if_true]
theorem Ev.alloc {k : Addr → Sem α} (e : Ev w n (h.push o) t p (k h.objs.size) h' t' p' a) : Ev w (n + 1) h t p (.alloc o k) h' t' p' a := fun R N r q => by rw [addS]; exact e R N r q
theorem Ev.fresh {k : Tok → Sem α} (e : Ev w n h (t + 1) p (k t) h' t' p' a) : Ev w (n + 1) h t p (.fresh k) h' t' p' a := fun R N r q => by rw [addS]; exact e R N r q
theorem Ev.ask {k : Setting → Sem α} (e : Ev w n h t p (k ⟨pw, w.params⟩) h' t' p' a) : Ev w (n + 1) h t p (.ask k) h' t' p' a := fun R N r q => by rw [addS]; exact e R N r q
theorem Ev.hash {i : Int} {u : Tok} {hd : Option Value} {g : Bool} {l : List Value} {k : Result → Sem α} (e : Ev w n h (t + 1) p (k (.ok (.ret (.int (rawHash i) t)))) h' t' p' a) : Ev w (n + 4) h t p (.call (hCode i u) hd g l k) h' t' p' a := fun R N r q => by
  rw [show n + 4 + N = n + N + 4 by omega]
  refine Eq.trans ?_ (e R N r q)
  refine (seg_succ rfl (by kernel_rfl) rfl).trans ?_
  rw [d1]
  refine (seg_succ (by kernel_rfl) (by kernel_rfl) rfl).trans ?_
  rw [d2]
  refine (seg_succ (by kernel_rfl) (by kernel_rfl) rfl).trans ?_
  refine (seg_succ (by kernel_rfl) (by kernel_rfl) rfl).trans ?_
  rfl
theorem Ev.cast {n n' : Nat} (e : Ev w n h t p x h' t' p' a) (q : n = n') : Ev w n' h t p x h' t' p' a := q ▸ e
theorem Ev.wrap (e : Ev w n h t p x h' t' p' a) {K : α → Sem β} {H : Value → Sem β} {gd : Bool → Bool} {lv : List Value → List Value} (f : Ev w m h' t' p' (K a) h'' t'' p'' b) : Ev w (n + m) h t p (x.wrap K H gd lv) h'' t'' p'' b := fun R N r q => by
  rw [Sem.wrap_wrap, Nat.add_assoc]
  exact e ⟨fun a => (K a).wrap R.K R.H R.gd R.lv, fun e => (H e).wrap R.K R.H R.gd R.lv, fun g => R.gd (gd g), fun l => R.lv (lv l), R.b, R.env, R.fr, R.gs, R.d, R.os⟩ (m + N) r (f R N r q)
theorem Ev.bind (e : Ev w n h t p x h' t' p' a) {f : α → Sem β} (g : Ev w m h' t' p' (f a) h'' t'' p'' b) : Ev w (n + m) h t p (x >>= f) h'' t'' p'' b := by
  rw [Sem.bind_eq_wrap']; exact e.wrap g
theorem Ev.catch_ (e : Ev w n h t p x h' t' p' a) {f : Value → Sem α} : Ev w n h t p (x.tryCatch f) h' t' p' a := by
  rw [Sem.tryCatch_eq_wrap]; exact e.wrap (.pure a)
theorem Ev.onRaise (e : Ev w n h t p x h' t' p' a) {f : Value → Sem Unit} : Ev w n h t p (x.onRaise f) h' t' p' a := by
  rw [Sem.onRaise_eq_wrap]; exact e.wrap (.pure a)
theorem Ev.keep (e : Ev w n h t p x h' t' p' a) {vs : List Value} : Ev w n h t p (x.keep vs) h' t' p' a := by
  rw [Sem.keep_eq_wrap]; exact e.wrap (.pure a)
theorem Ev.holding (e : Ev w n h t p x h' t' p' a) {vs : List Value} : Ev w n h t p (holding vs x) h' t' p' a := by
  unfold PySem.holding
  split
  · exact e
  · exact e.keep
end
end Mine
end
/-! text E2 -/
section
open PySem PySem.W PyProof.Rows PySem.Spec PySem.Calls
set_option maxRecDepth 100000
set_option linter.unusedVariables false
namespace Mine
section
variable {w : World} {α β : Type} {n m : Nat} {h h' h'' : Heap} {t t' t'' : Nat} {p p' p'' : Pos} {a : α} {b : β} {x : Sem α} {k : Int} {u : Tok}
theorem sp_hash (k : Int) (u : Tok) : specialOf (.int k u) "__hash__" = pure (some (.builtin "int.__hash__")) := slot_int_hash.lookup
theorem Ev.bindn {n m q : Nat} (e : Ev w n h t p x h' t' p' a) {f : α → Sem β} (g : Ev w m h' t' p' (f a) h'' t'' p'' b) (hq : n + m = q) : Ev w q h t p (x >>= f) h'' t'' p'' b := hq ▸ e.bind g
theorem evPB {f : α → Sem β} (g : Ev w m h t p (f a) h'' t'' p'' b) : Ev w m h t p ((pure a : Sem α) >>= f) h'' t'' p'' b := g
theorem ev_callB : Ev w 4 h t p (call (.builtin "int.__hash__") [.int k u]) h (t + 1) p (.int (rawHash k) t) := by
  show Ev w 4 h t p (run (hCode k u) >>= _) _ _ _ _
  refine Ev.bindn (n := 4) (m := 0) (a := .ret (.int (rawHash k) t)) (h' := h) (t' := t + 1) (p' := p) ?_ ?_ rfl
  · exact Ev.hash (n := 0) (.pure _)
  · exact .pure _
theorem ev_callHash {refuse : Sem Value} : Ev w 5 h t p (callSpecialIfBoundUnlessNone? (.int k u) "__hash__" refuse) h (t + 1) p (some (.int (rawHash k) t)) := by
  have fin : Ev w 4 h t p (if (Value.builtin "int.__hash__" == Value.none) = true then (refuse >>= fun v => pure (some v)) else (call (.builtin "int.__hash__") [.int k u] >>= fun v => pure (some v))) h (t + 1) p (some (.int (rawHash k) t)) := by
    rw [builtin_beq_none, if_neg Bool.false_ne_true]
    exact Ev.bindn (m := 0) ev_callB (.pure _) rfl
  simp only [callSpecialIfBoundUnlessNone?, bindSpecialIfBound?, sp_hash, slot_int_hash.bind]
  refine Ev.holding ?_
  refine Ev.bindn (n := 1) (m := 4) (a := some (Value.builtin "int.__hash__", [Value.int k u])) (h' := h) (t' := t) (p' := p) ?_ fin rfl
  refine evPB ?_
  refine Ev.bindn (n := 1) (m := 0) (a := ⟨pw, w.params⟩) (h' := h) (t' := t) (p' := p) (Ev.ask (n := 0) (.pure _)) ?_ rfl
  by_cases q : w.params.followText "special-get-raises" = true
  · rw [if_pos q]
    exact evPB (.pure _)
  · rw [if_neg q]
    exact Ev.catch_ (evPB (.pure _))
theorem ev_hash : Ev w 5 h t p (pyHash (.int k u)) h (t + 1) p (hashInt k) := by
  have hr := rawHash_range k
  show Ev w 5 h t p (pyHashByItsType (.int k u)) _ _ _ _
  unfold pyHashByItsType
  have hv : [Value.int k u].any Value.onHeap = false := rfl
  rw [cRoomFor, if_neg (by rw [hv]; exact Bool.false_ne_true)]
  refine evPB ?_
  simp only [sp_hash]
  refine evPB ?_
  rw [if_neg (by rw [beq_builtin_none]; exact Bool.false_ne_true)]
  refine evPB ?_
  refine Ev.bindn (n := 5) (m := 0) ev_callHash ?_ rfl
  show Ev w 0 h (t + 1) p (if (decide (-(2 : Int) ^ 63 ≤ rawHash k) && decide (rawHash k < 2 ^ 63)) = true then _ else _) _ _ _ _
  rw [if_pos (by rw [decide_eq_true hr.1, decide_eq_true hr.2]; rfl)]
  exact .pure _
end
end Mine
end
/-! text E3 -/
section
open PySem PySem.W PyProof.Rows PySem.Spec PySem.Calls
set_option maxRecDepth 100000
set_option linter.unusedVariables false
namespace Mine
/-! dict stores, counted -/
/-- a place of the heap that holds one object, the rest given -/
structure At (H : Obj → Heap) (d : Addr) : Prop where
  get : ∀ o, o.isFreed = false → (H o).get? d = some o
  up : ∀ o f, (H o).update d f = H (f o)
  big : Nat.ble 11 d = true
theorem dO_push (es : List DictEntry) (e : DictEntry) : (dO es).mapDictKeys (·.push e) = dO (es ++ [e]) := by
  unfold dO Obj.mapDictKeys
  simp
theorem dO_free (es : List DictEntry) : (dO es).isFreed = false := rfl
noncomputable def NewTo (es : List DictEntry) (h : Int) : Prop := ∀ e ∈ es, e.hash ≠ h
section
variable {w : World} {h h' h'' : Heap} {t t' t'' : Nat} {p p' p'' : Pos} {k : Int} {u : Tok} {H : Obj → Heap} {d : Addr} {es : List DictEntry} {v : Value}
theorem places_none {es : List DictEntry} {hs : Int} (hn : NewTo es hs) : placesWithHash es.toArray.size (fun i => es.toArray[i]?.map (·.hash)) hs = [] := by
  unfold placesWithHash
  refine List.filter_eq_nil_iff.mpr fun i hi => ?_
  intro q
  have q : es.toArray[i]?.map (·.hash) = some hs := eq_of_beq q
  cases e : es.toArray[i]? with
  | none => rw [e] at q; cases q
  | some x =>
    rw [e] at q
    cases q
    exact hn x (by rw [List.getElem?_toArray] at e; exact List.mem_of_getElem? e) rfl
theorem ev_loadPart {o : Obj} {part : Option Value} (ho : h.get? d = some o) : Ev w 1 h t p (loadPart d part) h t p o := Ev.load ho (.pure _)
theorem ev_entries {part : Option Value} (A : At H d) : Ev w 1 (H (dO es)) t p (dictEntries d part) (H (dO es)) t p es.toArray := by
  unfold dictEntries
  exact Ev.bindn (ev_loadPart (A.get _ (dO_free es))) (.pure _) rfl
theorem ev_epoch {part : Option Value} (A : At H d) : Ev w 1 (H (dO es)) t p (dictEpoch d part) (H (dO es)) t p es.length := by
  unfold dictEpoch
  exact Ev.bindn (ev_loadPart (A.get _ (dO_free es))) (.pure _) rfl
theorem ev_find (A : At H d) (hn : NewTo es (hashInt k)) : Ev w 1 (H (dO es)) t p (dictFind d (.int k u) (hashInt k)) (H (dO es)) t p none := by
  unfold dictFind
  refine Ev.holding ?_
  refine Ev.bindn (n := 1) (m := 0) (ev_entries A) ?_ rfl
  simp only [places_none hn]
  exact .pure _
theorem ev_keys {e : DictEntry} {part : Option Value} (A : At H d) (hs : es.length < 1000) : Ev w 3 (H (dO es)) t p (updateDictKeys d (·.push e) part) (H (dO (es ++ [e]))) t p () := by
  unfold updateDictKeys
  refine Ev.bindn (n := 1) (m := 2) (ev_loadPart (A.get _ (dO_free es))) ?_ rfl
  refine Ev.bindn (n := 1) (m := 1) (h' := H (dO (es ++ [e]))) (t' := t) (p' := p) (a := ()) ?_ ?_ rfl
  · refine Ev.update (n := 0) A.big (A.get _ (dO_free es)) ?_
    rw [A.up, dO_push]
    exact .pure _
  · unfold lookBehind
    refine Ev.bindn (n := 1) (m := 0) (ev_loadPart (A.get _ (dO_free _))) ?_ rfl
    have hl : (dO (es ++ [e])).data.pastItsLine = none := by
      show (Data.dict _ _).pastItsLine = none
      unfold Data.pastItsLine
      simp only [List.size_toArray, List.length_append, List.length_singleton]
      rw [if_neg (by rw [sizeLine_eq]; omega)]
    rw [hl]
    exact .pure _
theorem ev_set (A : At H d) (hn : NewTo es (hashInt k)) (hs : es.length < 1000) : Ev w 10 (H (dO es)) t p (dictSet d (.int k u) v) (H (dO (es ++ [⟨hashInt k, .int k u, v⟩]))) (t + 1) p () := by
  unfold dictSet
  refine Ev.holding ?_
  refine Ev.bindn (n := 5) (m := 5) ev_hash ?_ rfl
  unfold dictSetHashed
  refine Ev.holding ?_
  refine Ev.bindn (n := 1) (m := 4) (ev_find A hn) ?_ rfl
  refine Ev.bindn (n := 1) (m := 3) (a := ()) (Ev.rule (n := 0) (.pure _)) (ev_keys A hs) rfl
theorem ev_put (A : At H d) (hn : NewTo es (hashInt k)) (hs : es.length < 1000) : Ev w 4 (H (dO es)) t p (dictPut d (hashInt k) (.int k u) v) (H (dO (es ++ [⟨hashInt k, .int k u, v⟩]))) t p () := by
  unfold dictPut
  exact Ev.bindn (n := 1) (m := 3) (ev_find A hn) (ev_keys A hs) rfl
end
end Mine
end
/-! text E4 -/
section
open PySem PySem.W PyProof.Rows PySem.Spec PySem.Calls
set_option maxRecDepth 100000
set_option linter.unusedVariables false
namespace Mine
/-! a dict display of int keys and text values, counted -/
noncomputable def prOf (q : Pos) (x : Int × Str) : Sem Value × Sem Value := (mkInt x.1, do let v ← mkText x.2; standAt q; pure v)
noncomputable def Rising (l : List (Int × Str)) : Prop := l.Pairwise fun a b => hashInt a.1 ≠ hashInt b.1
noncomputable def Off (es : List DictEntry) (l : List (Int × Str)) : Prop := ∀ x ∈ l, NewTo es (hashInt x.1)
theorem ents_length : ∀ (t : Nat) (l : List (Int × Str)), (ents t l).length = l.length
  | _, [] => rfl
  | t, (k, v) :: r => by rw [ents, List.length_cons, ents_length, List.length_cons]
theorem ents2_length : ∀ (t : Nat) (l : List (Int × Str)), (ents2 t l).length = l.length
  | _, [] => rfl
  | t, (k, v) :: r => by rw [ents2, List.length_cons, ents2_length, List.length_cons]
theorem Off.step {es : List DictEntry} {k : Int} {s : Str} {l : List (Int × Str)} {kv v : Value} (o : Off es ((k, s) :: l)) (r : Rising ((k, s) :: l)) : Off (es ++ [⟨hashInt k, kv, v⟩]) l := fun x hx e he => by
  rcases List.mem_append.mp he with he | he
  · exact o x (.tail _ hx) e he
  · rw [List.mem_singleton.mp he]
    exact (List.pairwise_cons.mp r).1 x hx
section
variable {w : World} {h h' h'' : Heap} {t t' t'' : Nat} {p p' p'' q : Pos} {k : Int} {u : Tok} {H : Obj → Heap} {d : Addr} {es : List DictEntry} {v : Value}
theorem ev_int : Ev w 1 h t p (mkInt k) h (t + 1) p (.int k t) := by
  unfold mkInt
  exact Ev.bindn (n := 1) (m := 0) (Ev.fresh (n := 0) (.pure _)) (.pure _) rfl
theorem ev_text {s : Str} : Ev w 1 h t p (mkText s) h (t + 1) p (.str s t) := by
  unfold mkText
  exact Ev.bindn (n := 1) (m := 0) (Ev.fresh (n := 0) (.pure _)) (.pure _) rfl
theorem ev_at : Ev w 1 h t p (standAt q) h t q () := Ev.at_ (n := 0) (.pure _)
theorem ev_val {s : Str} : Ev w 2 h t p (do let v ← mkText s; standAt q; pure v) h (t + 1) q (.str s t) :=
  Ev.bindn (n := 1) (m := 1) ev_text (Ev.bindn (n := 1) (m := 0) ev_at (.pure _) rfl) rfl
/-- one pair after the other, each stored at once -/
theorem ev_long (A : At H d) : ∀ (l : List (Int × Str)) (es : List DictEntry) (t : Nat), Rising l → Off es l → es.length + l.length ≤ 1000 →
    Ev w (13 * l.length) (H (dO es)) t q (forIn (l.map (prOf q)) PUnit.unit fun (x : Sem Value × Sem Value) (_ : PUnit) => (do
        let kv ← x.1
        let vv ← holding [kv] x.2
        holding [kv, vv] (dictSet d kv vv)
        pure (ForInStep.yield PUnit.unit) : Sem (ForInStep PUnit))) (H (dO (es ++ ents t l))) (t + 3 * l.length) q PUnit.unit
  | [], es, t, _, _, _ => by
    rw [List.map_nil, List.forIn_nil, ents, List.append_nil]
    exact .pure _
  | (k, s) :: l, es, t, r, o, hs => by
    rw [List.map_cons, List.forIn_cons]
    rw [List.length_cons] at hs
    refine Ev.bindn (n := 13) (m := 13 * l.length) (h' := H (dO (es ++ [⟨hashInt k, .int k t, .str s (t + 1)⟩]))) (t' := t + 3) (p' := q) (a := ForInStep.yield PUnit.unit) ?_ ?_ (by rw [List.length_cons]; omega)
    · refine Ev.bindn (n := 1) (m := 12) ev_int ?_ rfl
      refine Ev.bindn (n := 2) (m := 10) (Ev.holding ev_val) ?_ rfl
      refine Ev.bindn (n := 10) (m := 0) (Ev.holding (ev_set A (o _ (.head _)) (by omega))) (.pure _) rfl
    · have ih := ev_long A l (es ++ [⟨hashInt k, .int k t, .str s (t + 1)⟩]) (t + 3) (List.pairwise_cons.mp r).2 (o.step r) (by rw [List.length_append, List.length_singleton]; omega)
      rw [List.append_assoc] at ih
      have e1 : t + 3 + 3 * l.length = t + 3 * ((k, s) :: l).length := by rw [List.length_cons]; omega
      rw [e1] at ih
      exact ih
/-- all pairs first, then the stores -/
theorem ev_pairs : ∀ (l : List (Int × Str)) (t : Nat) (p : Pos), l ≠ [] →
    Ev w (3 * l.length) h t p (evalPairs (l.map (prOf q))) h (t + 2 * l.length) q ((ents2 t l).map fun e => (e.key, e.val))
  | [], _, _, hl => absurd rfl hl
  | [(k, s)], t, p, _ => by
    show Ev w 3 h t p (evalPairs [prOf q (k, s)]) h (t + 2) q _
    unfold prOf evalPairs
    refine Ev.bindn (n := 1) (m := 2) ev_int ?_ rfl
    refine Ev.bindn (n := 2) (m := 0) (Ev.holding ev_val) ?_ rfl
    refine Ev.bindn (n := 0) (m := 0) (a := []) (Ev.holding ?_) (.pure _) rfl
    rw [evalPairs]
    exact .pure _
  | (k, s) :: y :: l, t, p, _ => by
    have ih := ev_pairs (y :: l) (t + 2) q (List.cons_ne_nil _ _)
    have e1 : t + 2 + 2 * (y :: l).length = t + 2 * ((k, s) :: y :: l).length := by simp only [List.length_cons]; omega
    rw [e1] at ih
    rw [List.map_cons]
    unfold evalPairs
    refine Ev.bindn (n := 1) (m := 2 + 3 * (y :: l).length) ev_int ?_ (by simp only [List.length_cons]; omega)
    refine Ev.bindn (n := 2) (m := 3 * (y :: l).length) (Ev.holding ev_val) ?_ rfl
    refine Ev.bindn (n := 3 * (y :: l).length) (m := 0) (Ev.holding ih) ?_ rfl
    exact Ev.pure ((ents2 t ((k, s) :: y :: l)).map fun e => (e.key, e.val))
theorem ev_short (A : At H d) : ∀ (l : List (Int × Str)) (es : List DictEntry) (t t₀ : Nat), Rising l → Off es l → es.length + l.length ≤ 1000 →
    Ev w (10 * l.length) (H (dO es)) t q (forIn ((ents2 t₀ l).map fun e => (e.key, e.val)) PUnit.unit fun (x : Value × Value) (_ : PUnit) => (do
        dictSet d x.1 x.2
        pure (ForInStep.yield PUnit.unit) : Sem (ForInStep PUnit))) (H (dO (es ++ ents2 t₀ l))) (t + l.length) q PUnit.unit
  | [], es, t, t₀, _, _, _ => by
    rw [ents2, List.map_nil, List.forIn_nil, List.append_nil]
    exact .pure _
  | (k, s) :: l, es, t, t₀, r, o, hs => by
    rw [ents2, List.map_cons, List.forIn_cons]
    rw [List.length_cons] at hs
    refine Ev.bindn (n := 10) (m := 10 * l.length) (h' := H (dO (es ++ [⟨hashInt k, .int k t₀, .str s (t₀ + 1)⟩]))) (t' := t + 1) (p' := q) (a := ForInStep.yield PUnit.unit) ?_ ?_ (by rw [List.length_cons]; omega)
    · exact Ev.bindn (n := 10) (m := 0) (ev_set A (o _ (.head _)) (by omega)) (.pure _) rfl
    · have ih := ev_short A l (es ++ [⟨hashInt k, .int k t₀, .str s (t₀ + 1)⟩]) (t + 1) (t₀ + 2) (List.pairwise_cons.mp r).2 (o.step r) (by rw [List.length_append, List.length_singleton]; omega)
      rw [List.append_assoc] at ih
      have e1 : t + 1 + l.length = t + ((k, s) :: l).length := by rw [List.length_cons]; omega
      rw [e1] at ih
      exact ih
/-- a display of its own -/
theorem ev_sub_long {l : List (Int × Str)} {H : Obj → Heap} (A : At H h.objs.size) (hp : ∀ o, h.push o = H o) (hl : l.length = 17) (r : Rising l) :
    Ev w 223 h t q (subDict (l.map (prOf q))) (H (dO (ents t l))) (t + 51) q h.objs.size := by
  unfold subDict
  refine Ev.bindn (n := 1) (m := 222) (a := h.objs.size) (h' := H (dO [])) (t' := t) (p' := q) ?_ ?_ rfl
  · refine Ev.alloc (n := 0) ?_
    rw [hp]
    exact .pure _
  refine Ev.bindn (n := 222) (m := 0) (a := PUnit.unit) (Ev.holding ?_) (.pure _) rfl
  rw [if_neg (by rw [List.length_map, hl]; decide)]
  refine Ev.bindn (n := 1) (m := 221) (a := ()) (h' := H (dO [])) (t' := t) (p' := q) (Ev.rule (n := 0) (.pure _)) ?_ rfl
  have e := ev_long (w := w) (q := q) A l [] t r (fun _ _ _ he => nomatch he) (by rw [hl]; decide)
  rw [hl] at e
  refine Ev.bindn (n := 221) (m := 0) e (.pure _) rfl
theorem ev_sub_short {l : List (Int × Str)} {H : Obj → Heap} (A : At H h.objs.size) (hp : ∀ o, h.push o = H o) (hl : l.length = 4) (r : Rising l) :
    Ev w 53 h t q (subDict (l.map (prOf q))) (H (dO (ents2 t l))) (t + 12) q h.objs.size := by
  unfold subDict
  refine Ev.bindn (n := 1) (m := 52) (a := h.objs.size) (h' := H (dO [])) (t' := t) (p' := q) ?_ ?_ rfl
  · refine Ev.alloc (n := 0) ?_
    rw [hp]
    exact .pure _
  refine Ev.bindn (n := 52) (m := 0) (a := PUnit.unit) (Ev.holding ?_) (.pure _) rfl
  rw [if_pos (by rw [List.length_map, hl]; decide)]
  have e0 := ev_pairs (w := w) (h := H (dO [])) (q := q) l t q (by intro e; rw [e] at hl; cases hl)
  rw [hl] at e0
  refine Ev.bindn (n := 12) (m := 40) e0 (Ev.holding ?_) rfl
  have e := ev_short (w := w) (q := q) A l [] (t + 8) t r (fun _ _ _ he => nomatch he) (by rw [hl]; decide)
  rw [hl] at e
  exact Ev.bindn (n := 40) (m := 0) e (.pure _) rfl
end
end Mine
end
/-! text E5 -/
section
open PySem PySem.W PyProof.Rows PySem.Spec PySem.Calls
set_option maxRecDepth 100000
set_option linter.unusedVariables false
namespace Mine
/-! one dict poured into another, counted -/
structure At2 (H : Obj → Obj → Heap) (d s : Addr) : Prop where
  a : ∀ x, At (fun o => H o x) d
  b : ∀ x, At (fun o => H x o) s
theorem dict_iter : typeLookup (.type "dict") "__iter__" = pure (some (.builtin "dict.__iter__")) := by rw [typeLookup_type, builtinLookup_eq_fast]; kernel_rfl
theorem dict_sub : isSubtype (.type "dict") (.type "dict") = pure true := by rw [isSubtype_type]; kernel_rfl
section
variable {w : World} {h h' h'' : Heap} {t t' t'' : Nat} {p p' p'' q : Pos} {k : Int} {u : Tok} {H : Obj → Obj → Heap} {d s : Addr} {es fs : List DictEntry} {v : Value}
theorem ev_for_range {f : Nat → PUnit → Sem (ForInStep PUnit)} {Hs : Nat → Heap} {c : Nat} : ∀ (len i : Nat), (∀ j, i ≤ j → j < i + len → Ev w c (Hs j) t p (f j PUnit.unit) (Hs (j + 1)) t p (ForInStep.yield PUnit.unit)) →
    Ev w (c * len) (Hs i) t p (forIn (List.range' i len) PUnit.unit f) (Hs (i + len)) t p PUnit.unit
  | 0, i, _ => by
    rw [List.range'_zero, List.forIn_nil]
    exact .pure _
  | len + 1, i, hf => by
    rw [List.range'_succ, List.forIn_cons]
    refine Ev.bindn (n := c) (m := c * len) (hf i (Nat.le_refl _) (by omega)) ?_ (by rw [Nat.mul_succ]; omega)
    have ih := ev_for_range len (i + 1) (fun j h1 h2 => hf j (by omega) (by omega))
    rw [show i + 1 + len = i + (len + 1) by omega] at ih
    exact ih
theorem ev_typeOf (A : At2 H d s) {x y : List DictEntry} : Ev w 1 (H (dO x) (dO y)) t p (typeOf (.ref s)) (H (dO x) (dO y)) t p (.type "dict") :=
  Ev.bindn (n := 1) (m := 0) (ev_loadPart ((A.b _).get _ (dO_free y))) (.pure _) rfl
theorem heaps_eq {α : Type} {n : Nat} {x : Sem α} {a : α} {h₁ h₁' : Heap} (e1 : h₁ = h) (e2 : h₁' = h') (e : Ev w n h t p x h' t' p' a) : Ev w n h₁ t p x h₁' t' p' a := by rw [e1, e2]; exact e
theorem take_snocE {α : Type} : ∀ {l : List α} {i : Nat} {x : α}, l[i]? = some x → l.take (i + 1) = l.take i ++ [x]
  | _ :: _, 0, _, h => by cases h; rfl
  | _ :: l, i + 1, _, h => by rw [List.take_succ_cons, List.take_succ_cons, take_snocE (l := l) (by simpa using h), List.cons_append]
theorem ev_merge (A : At2 H d s) (hs : (s == sysModules) = false) (h0 : es ≠ []) (hi : ∀ e ∈ fs, ∃ k u v, e = ⟨hashInt k, .int k u, v⟩) (hn : ∀ i e, fs[i]? = some e → NewTo (es ++ fs.take i) e.hash) (hz : es.length + fs.length ≤ 1000) :
    Ev w (5 + 6 * fs.length) (H (dO es) (dO fs)) t p (mergeMapping d (.ref s) false) (H (dO (es ++ fs)) (dO fs)) t p () := by
  unfold mergeMapping
  refine Ev.bindn (n := 1) (m := 4 + 6 * fs.length) (a := true) (h' := H (dO es) (dO fs)) (t' := t) (p' := p) ?_ ?_ (by omega)
  · unfold isInstance
    refine Ev.bindn (n := 1) (m := 0) (ev_typeOf A) ?_ rfl
    rw [dict_sub]; exact .pure _
  rw [if_pos rfl]
  refine Ev.bindn (n := 1) (m := 3 + 6 * fs.length) (a := some (.builtin "dict.__iter__")) (h' := H (dO es) (dO fs)) (t' := t) (p' := p) ?_ ?_ (by omega)
  · unfold specialOf
    refine Ev.bindn (n := 1) (m := 0) (ev_typeOf A) ?_ rfl
    rw [dict_iter]; exact .pure _
  have e0 : ((some (Value.builtin "dict.__iter__")) == some (Value.builtin "dict.__iter__")) = true := beq_self_eq_true _
  rw [e0]
  refine evPB ?_
  dsimp only
  rw [hs, if_neg Bool.false_ne_true]
  refine Ev.bindn (n := 1) (m := 2 + 6 * fs.length) (ev_entries (A.a _)) ?_ (by omega)
  have he : es.toArray.isEmpty = false := by
    cases es with
    | nil => exact absurd rfl h0
    | cons => rfl
  rw [he, if_neg Bool.false_ne_true]
  refine Ev.bindn (n := 1) (m := 1 + 6 * fs.length) (ev_entries (H := fun o => H (dO es) o) (A.b _)) ?_ (by omega)
  refine Ev.bindn (n := 1) (m := 6 * fs.length) (ev_epoch (H := fun o => H (dO es) o) (A.b _)) ?_ (by omega)
  refine Ev.bindn (n := 6 * fs.length) (m := 0) (a := PUnit.unit) (h' := H (dO (es ++ fs)) (dO fs)) (t' := t) (p' := p) ?_ (.pure _) rfl
  rw [List.size_toArray, List.range_eq_range']
  refine heaps_eq (h := H (dO (es ++ fs.take 0)) (dO fs)) (h' := H (dO (es ++ fs.take (0 + fs.length))) (dO fs)) (by rw [List.take_zero, List.append_nil]) (by rw [Nat.zero_add, List.take_length]) (ev_for_range (Hs := fun i => H (dO (es ++ fs.take i)) (dO fs)) fs.length 0 fun j _ hj => ?_)
  rw [Nat.zero_add] at hj
  refine Ev.bindn (n := 1) (m := 5) (ev_entries (H := fun o => H (dO (es ++ fs.take j)) o) (A.b _)) ?_ rfl
  have e1 : fs.toArray[j]? = some fs[j] := by rw [List.getElem?_toArray]; exact List.getElem?_eq_getElem hj
  obtain ⟨k, u, v, e2⟩ := hi _ (List.getElem_mem hj)
  rw [e1]
  dsimp only
  rw [e2]
  have hnn := hn j _ (List.getElem?_eq_getElem hj)
  rw [e2] at hnn
  have e3 := take_snocE (List.getElem?_eq_getElem hj)
  rw [e2] at e3
  refine Ev.bindn (n := 4) (m := 1) (Ev.holding (ev_put (H := fun o => H o (dO fs)) (A.a _) hnn (by rw [List.length_append, List.length_take]; omega))) ?_ rfl
  rw [e3, ← List.append_assoc]
  refine Ev.bindn (n := 1) (m := 0) (ev_epoch (H := fun o => H (dO (es ++ fs.take j ++ [⟨hashInt k, .int k u, v⟩])) o) (A.b _)) ?_ rfl
  rw [bne_self_eq_false, if_neg Bool.false_ne_true]
  exact .pure _
end
end Mine
end
/-! text E6 -/
section
open PySem PySem.W PyProof.Rows PySem.Spec PySem.Calls
set_option maxRecDepth 100000
set_option linter.unusedVariables false
namespace Mine
/-! the whole display, in chunks of seventeen -/
theorem modify_right {α : Type} {f : α → α} : ∀ (l r : List α) {i : Nat}, l.length ≤ i → (l ++ r).modify i f = l ++ r.modify (i - l.length) f
  | [], r, i, _ => rfl
  | x :: l, r, 0, h => absurd h (by rw [List.length_cons]; omega)
  | x :: l, r, i + 1, h => by
    rw [List.length_cons] at h
    rw [List.cons_append, List.modify_succ_cons, modify_right l r (by omega), List.length_cons, Nat.add_sub_add_right, List.cons_append]
noncomputable def hp (lf : Life) (base : List Obj) (m : Obj) (subs : List Obj) : Heap := ⟨(base ++ m :: subs).toArray, lf⟩
section
variable {lf : Life} {base subs : List Obj} {m : Obj}
theorem get_of {l : List Obj} {a : Nat} {o : Obj} (e : l[a]? = some o) (hf : o.isFreed = false) : (Heap.mk l.toArray lf).get? a = some o := by
  unfold Heap.get?
  rw [List.getElem?_toArray, e]
  obtain ⟨c, d, dt, sl⟩ := o
  cases dt <;> first | rfl | cases hf
theorem at_main (hb : base.length = 56) : At (fun o => hp lf base o subs) 56 := by
  refine ⟨fun o hf => get_of ?_ hf, fun o f => ?_, rfl⟩
  · rw [List.getElem?_append_right (by omega), hb]; rfl
  · show Heap.mk ((base ++ o :: subs).toArray.modify 56 f) lf = _
    rw [List.modify_toArray, modify_right _ _ (by omega), hb]
    rfl
theorem at_sub (hb : base.length = 56) : At (fun o => hp lf base m (subs ++ [o])) (57 + subs.length) := by
  have e : ∀ o, base ++ m :: (subs ++ [o]) = (base ++ m :: subs) ++ [o] := fun o => by rw [List.append_assoc, List.cons_append]
  have hl : (base ++ m :: subs).length = 57 + subs.length := by rw [List.length_append, List.length_cons]; omega
  refine ⟨fun o hf => get_of ?_ hf, fun o f => ?_, Nat.ble_eq_true_of_le (by omega)⟩
  · rw [e, List.getElem?_append_right (by omega), hl, Nat.sub_self]; rfl
  · show Heap.mk ((base ++ m :: (subs ++ [o])).toArray.modify (57 + subs.length) f) lf = Heap.mk (base ++ m :: (subs ++ [f o])).toArray lf
    rw [e, List.modify_toArray, modify_right _ _ (by omega), hl, Nat.sub_self, e]
    rfl
theorem at_two (hb : base.length = 56) : At2 (fun o x => hp lf base o (subs ++ [x])) 56 (57 + subs.length) := ⟨fun _ => at_main hb, fun _ => at_sub hb⟩
theorem hp_push (o : Obj) : (hp lf base m subs).push o = hp lf base m (subs ++ [o]) := by
  show Heap.mk ((base ++ m :: subs).toArray.push o) lf = Heap.mk (base ++ m :: (subs ++ [o])).toArray lf
  rw [List.push_toArray, List.append_assoc, List.cons_append]
theorem hp_size (hb : base.length = 56) : (hp lf base m subs).objs.size = 57 + subs.length := by
  show (base ++ m :: subs).toArray.size = _
  rw [List.size_toArray, List.length_append, List.length_cons]; omega
end
theorem ents_form : ∀ (t : Nat) (l : List (Int × Str)), ∀ e ∈ ents t l, ∃ k u v, e = ⟨hashInt k, .int k u, v⟩
  | _, [], _, h => nomatch h
  | t, (k, s) :: r, e, h => by
    rw [ents] at h
    rcases List.mem_cons.mp h with rfl | h
    · exact ⟨_, _, _, rfl⟩
    · exact ents_form _ r e h
theorem ents2_form : ∀ (t : Nat) (l : List (Int × Str)), ∀ e ∈ ents2 t l, ∃ k u v, e = ⟨hashInt k, .int k u, v⟩
  | _, [], _, h => nomatch h
  | t, (k, s) :: r, e, h => by
    rw [ents2] at h
    rcases List.mem_cons.mp h with rfl | h
    · exact ⟨_, _, _, rfl⟩
    · exact ents2_form _ r e h
theorem ents_new : ∀ (l : List (Int × Str)) (t : Nat) (es : List DictEntry), Rising l → Off es l → ∀ i e, (ents t l)[i]? = some e → NewTo (es ++ (ents t l).take i) e.hash
  | [], _, _, _, _, _, _, h => nomatch h
  | (k, s) :: r, t, es, hr, ho, 0, e, h => by
    rw [ents] at h
    cases h
    rw [List.take_zero, List.append_nil]
    exact ho _ (.head _)
  | (k, s) :: r, t, es, hr, ho, i + 1, e, h => by
    rw [ents] at h ⊢
    have ih := ents_new r (t + 3) (es ++ [⟨hashInt k, .int k t, .str s (t + 1)⟩]) (List.pairwise_cons.mp hr).2 (ho.step hr) i e h
    rw [List.append_assoc] at ih
    exact ih
theorem ents2_new : ∀ (l : List (Int × Str)) (t : Nat) (es : List DictEntry), Rising l → Off es l → ∀ i e, (ents2 t l)[i]? = some e → NewTo (es ++ (ents2 t l).take i) e.hash
  | [], _, _, _, _, _, _, h => nomatch h
  | (k, s) :: r, t, es, hr, ho, 0, e, h => by
    rw [ents2] at h
    cases h
    rw [List.take_zero, List.append_nil]
    exact ho _ (.head _)
  | (k, s) :: r, t, es, hr, ho, i + 1, e, h => by
    rw [ents2] at h ⊢
    have ih := ents2_new r (t + 2) (es ++ [⟨hashInt k, .int k t, .str s (t + 1)⟩]) (List.pairwise_cons.mp hr).2 (ho.step hr) i e h
    rw [List.append_assoc] at ih
    exact ih
theorem off_ents : ∀ (c : List (Int × Str)) (l : List (Int × Str)) (t : Nat) (es : List DictEntry), Rising (c ++ l) → Off es (c ++ l) → Off (es ++ ents t c) l
  | [], l, t, es, _, ho => by rw [ents, List.append_nil]; exact ho
  | (k, s) :: c, l, t, es, hr, ho => by
    rw [ents]
    have ih := off_ents c l (t + 3) (es ++ [⟨hashInt k, .int k t, .str s (t + 1)⟩]) (List.pairwise_cons.mp hr).2 (ho.step hr)
    rw [List.append_assoc] at ih
    exact ih
theorem ents_append : ∀ (c l : List (Int × Str)) (t : Nat), ents t (c ++ l) = ents t c ++ ents (t + 3 * c.length) l
  | [], l, t => rfl
  | (k, s) :: c, l, t => by
    rw [List.cons_append, ents, ents, ents_append c l, List.cons_append, List.length_cons, show t + 3 + 3 * c.length = t + 3 * (c.length + 1) by omega]
noncomputable abbrev Gath := Option Addr × List (Sem Value × Sem Value)
section
variable {w : World} {t t' t'' : Nat} {p p' p'' q : Pos} {h h' h'' : Heap} {lf : Life} {base : List Obj}
variable {f : (Option (Sem Value) × Sem Value) → Gath → Sem (ForInStep Gath)} {fl : List (Sem Value × Sem Value) → Option Addr → Sem (Option Addr)}
theorem ev_gather_end (hf1 : ∀ (x : Sem Value × Sem Value) run main, run.length + 1 < 17 → f (some x.1, x.2) (main, run) = pure (.yield (main, run ++ [x])))
    {main : Option Addr} : ∀ (c run : List (Sem Value × Sem Value)), run.length + c.length < 17 →
    Ev w 0 h t p (forIn (c.map fun x => (some x.1, x.2)) (main, run) f) h t p (main, run ++ c)
  | [], run, _ => by
    rw [List.map_nil, List.forIn_nil, List.append_nil]
    exact .pure _
  | x :: c, run, hl => by
    rw [List.length_cons] at hl
    rw [List.map_cons, List.forIn_cons, hf1 x run main (by omega)]
    refine evPB ?_
    have ih := ev_gather_end hf1 (main := main) c (run ++ [x]) (by rw [List.length_append, List.length_singleton]; omega)
    rw [List.append_assoc] at ih
    exact ih
end
end Mine
end
/-! text E7 -/
section
open PySem PySem.W PyProof.Rows PySem.Spec PySem.Calls
set_option maxRecDepth 100000
set_option linter.unusedVariables false
namespace Mine
/-! the display of 650 pairs -/
theorem getLast_split {α : Type} {l : List α} {n : Nat} (h : l.length = n + 1) : ∃ c x, l = c ++ [x] ∧ c.length = n := by
  have hne : l ≠ [] := by rintro rfl; cases h
  exact ⟨l.dropLast, l.getLast hne, (List.dropLast_concat_getLast hne).symm, by rw [List.length_dropLast, h]; rfl⟩
section
variable {w : World} {t t' t'' : Nat} {p p' p'' q : Pos} {h h' h'' : Heap} {lf : Life} {base subs : List Obj} {es : List DictEntry} {l : List (Int × Str)}
theorem ev_sub_first (hb : base.length = 56) (hl : l.length = 17) (r : Rising l) :
    Ev w 223 (Heap.mk base.toArray lf) t q (subDict (l.map (prOf q))) (hp lf base (dO (ents t l)) []) (t + 51) q 56 := by
  have hz : (Heap.mk base.toArray lf).objs.size = 56 := by show base.toArray.size = 56; rw [List.size_toArray, hb]
  have e := ev_sub_long (w := w) (t := t) (q := q) (h := Heap.mk base.toArray lf) (l := l) (H := fun o => hp lf base o []) (by rw [hz]; exact at_main hb) (fun o => by
    show Heap.mk (base.toArray.push o) lf = Heap.mk (base ++ [o]).toArray lf
    rw [List.push_toArray]) hl r
  rw [hz] at e
  exact e
theorem ev_sub_next (hb : base.length = 56) (hl : l.length = 17) (r : Rising l) :
    Ev w 223 (hp lf base (dO es) subs) t q (subDict (l.map (prOf q))) (hp lf base (dO es) (subs ++ [dO (ents t l)])) (t + 51) q (57 + subs.length) := by
  have e := ev_sub_long (w := w) (t := t) (q := q) (h := hp lf base (dO es) subs) (l := l) (H := fun o => hp lf base (dO es) (subs ++ [o])) (by rw [hp_size hb]; exact at_sub hb) (fun o => hp_push o) hl r
  rw [hp_size hb] at e
  exact e
theorem ev_sub_last (hb : base.length = 56) (hl : l.length = 4) (r : Rising l) :
    Ev w 53 (hp lf base (dO es) subs) t q (subDict (l.map (prOf q))) (hp lf base (dO es) (subs ++ [dO (ents2 t l)])) (t + 12) q (57 + subs.length) := by
  have e := ev_sub_short (w := w) (t := t) (q := q) (h := hp lf base (dO es) subs) (l := l) (H := fun o => hp lf base (dO es) (subs ++ [o])) (by rw [hp_size hb]; exact at_sub hb) (fun o => hp_push o) hl r
  rw [hp_size hb] at e
  exact e
theorem ev_pour (hb : base.length = 56) {fs : List DictEntry} (hs : subs.length < 100) (h0 : es ≠ []) (hi : ∀ e ∈ fs, ∃ k u v, e = ⟨hashInt k, .int k u, v⟩) (hn : ∀ i e, fs[i]? = some e → NewTo (es ++ fs.take i) e.hash) (hz : es.length + fs.length ≤ 1000) :
    Ev w (5 + 6 * fs.length) (hp lf base (dO es) (subs ++ [dO fs])) t p (mergeMapping 56 (.ref (57 + subs.length)) false) (hp lf base (dO (es ++ fs)) (subs ++ [dO fs])) t p () :=
  ev_merge (H := fun o x => hp lf base o (subs ++ [x])) (at_two hb) (by
    refine beq_eq_false_iff_ne.mpr fun e => ?_
    have : (sysModules : Nat) < 57 := by decide
    exact Nat.ne_of_gt (Nat.lt_of_lt_of_le this (Nat.le_add_right _ _)) e) h0 hi hn hz
variable {f : (Option (Sem Value) × Sem Value) → Gath → Sem (ForInStep Gath)}
theorem ev_chunk (hf1 : ∀ (x : Sem Value × Sem Value) run main, run.length + 1 < 17 → f (some x.1, x.2) (main, run) = pure (.yield (main, run ++ [x])))
    {rest : List (Option (Sem Value) × Sem Value)} {main m : Option Addr} {n k : Nat} {r : Gath} {x : Sem Value × Sem Value} (e2 : Ev w k h' t' p' (forIn rest (m, []) f) h'' t'' p'' r) : ∀ (c run : List (Sem Value × Sem Value)), run.length + c.length = 16 →
    Ev w n h t p (f (some x.1, x.2) (main, run ++ c)) h' t' p' (.yield (m, [])) →
    Ev w (n + k) h t p (forIn (c.map (fun x => (some x.1, x.2)) ++ (some x.1, x.2) :: rest) (main, run) f) h'' t'' p'' r
  | [], run, hl, e1 => by
    rw [List.append_nil] at e1
    rw [List.map_nil, List.nil_append, List.forIn_cons]
    exact Ev.bindn e1 e2 rfl
  | y :: c, run, hl, e1 => by
    rw [List.length_cons] at hl
    rw [List.map_cons, List.cons_append, List.forIn_cons, hf1 y run main (by omega)]
    refine evPB ?_
    exact ev_chunk hf1 e2 c (run ++ [y]) (by rw [List.length_append, List.length_singleton]; omega) (by rw [List.append_assoc]; exact e1)
noncomputable abbrev itemOf (q : Pos) (x : Int × Str) : Option (Sem Value) × Sem Value := (some (prOf q x).1, (prOf q x).2)
theorem ev_chunks (hb : base.length = 56) (hf1 : ∀ (x : Sem Value × Sem Value) run main, run.length + 1 < 17 → f (some x.1, x.2) (main, run) = pure (.yield (main, run ++ [x])))
    (hf2 : ∀ (c : List (Int × Str)) (x : Int × Str) (es : List DictEntry) (subs : List Obj) (t : Nat), c.length = 16 → Rising (c ++ [x]) → Off es (c ++ [x]) → es ≠ [] → subs.length < 100 → es.length ≤ 900 →
      Ev w 330 (hp lf base (dO es) subs) t q (f (itemOf q x) (some 56, c.map (prOf q))) (hp lf base (dO (es ++ ents t (c ++ [x]))) (subs ++ [dO (ents t (c ++ [x]))])) (t + 51) q (.yield (some 56, []))) :
    ∀ (k : Nat) (l : List (Int × Str)) (es : List DictEntry) (subs : List Obj) (t : Nat), l.length = 17 * k + 4 → Rising l → Off es l → es ≠ [] → subs.length + k < 100 → es.length + 17 * k ≤ 900 →
    Ev w (330 * k) (hp lf base (dO es) subs) t q (forIn (l.map (itemOf q)) (some 56, []) f)
      (hp lf base (dO (es ++ ents t (l.take (17 * k)))) (subs ++ (List.range k).map fun i => dO (ents (t + 51 * i) ((l.drop (17 * i)).take 17)))) (t + 51 * k) q (some 56, (l.drop (17 * k)).map (prOf q))
  | 0, l, es, subs, t, hl, hr, ho, h0, hs, hz => by
    have e := ev_gather_end (w := w) (h := hp lf base (dO es) subs) (t := t) (p := q) hf1 (main := some 56) (l.map (prOf q)) [] (by rw [List.length_nil, List.length_map]; omega)
    rw [List.map_map, List.nil_append] at e
    simpa [ents] using e
  | k + 1, l, es, subs, t, hl, hr, ho, h0, hs, hz => by
    have hl1 : (l.take 17).length = 16 + 1 := by rw [List.length_take]; omega
    obtain ⟨c, x, hc, hcl⟩ := getLast_split hl1
    have hsplit : l = (c ++ [x]) ++ l.drop 17 := by rw [← hc, List.take_append_drop]
    have hdl : (l.drop 17).length = 17 * k + 4 := by rw [List.length_drop]; omega
    have hcx : (c ++ [x]).length = 17 := by rw [← hc]; exact hl1
    have hr' : Rising ((c ++ [x]) ++ l.drop 17) := hsplit ▸ hr
    have ho' : Off es ((c ++ [x]) ++ l.drop 17) := hsplit ▸ ho
    have ih := ev_chunks hb hf1 hf2 k (l.drop 17) (es ++ ents t (c ++ [x])) (subs ++ [dO (ents t (c ++ [x]))]) (t + 51) hdl (List.pairwise_append.mp hr').2.1 (off_ents _ _ t es hr' ho')
      (by intro e; exact h0 (List.append_eq_nil_iff.mp e).1) (by rw [List.length_append, List.length_singleton]; omega) (by rw [List.length_append, ents_length, hcx]; omega)
    have e1 := hf2 c x es subs t hcl (List.pairwise_append.mp hr').1 (fun y hy => ho' y (List.mem_append_left _ hy)) h0 (by omega) (by omega)
    have e := ev_chunk hf1 (x := prOf q x) ih (c.map (prOf q)) [] (by rw [List.length_nil, List.length_map]; omega) (by rw [List.nil_append]; exact e1)
    have q1 : (c.map (prOf q)).map (fun x => (some x.1, x.2)) ++ (some (prOf q x).1, (prOf q x).2) :: (l.drop 17).map (itemOf q) = l.map (itemOf q) := by
      conv => rhs; rw [hsplit, List.map_append, List.map_append]
      rw [List.map_map, List.append_assoc]
      rfl
    rw [q1] at e
    have q2 : es ++ ents t (c ++ [x]) ++ ents (t + 51) ((l.drop 17).take (17 * k)) = es ++ ents t (l.take (17 * (k + 1))) := by
      have e3 : l.take (17 * (k + 1)) = (c ++ [x]) ++ (l.drop 17).take (17 * k) := by
        rw [← hc, show 17 * (k + 1) = 17 + 17 * k by omega, List.take_add]
      have e4 := ents_append (c ++ [x]) ((l.drop 17).take (17 * k)) t
      rw [hcx] at e4
      rw [e3, e4, List.append_assoc]
    have q3 : subs ++ [dO (ents t (c ++ [x]))] ++ (List.range k).map (fun i => dO (ents (t + 51 + 51 * i) (((l.drop 17).drop (17 * i)).take 17))) = subs ++ (List.range (k + 1)).map (fun i => dO (ents (t + 51 * i) ((l.drop (17 * i)).take 17))) := by
      rw [List.append_assoc, List.range_succ_eq_map, List.map_cons, List.map_map, ← hc]
      have : ∀ i, dO (ents (t + 51 + 51 * i) (((l.drop 17).drop (17 * i)).take 17)) = dO (ents (t + 51 * (i + 1)) ((l.drop (17 * (i + 1))).take 17)) := fun i => by
        rw [List.drop_drop, show 17 + 17 * i = 17 * (i + 1) by omega, show t + 51 + 51 * i = t + 51 * (i + 1) by omega]
      simp only [this]
      rfl
    rw [q2, q3, List.drop_drop, show 17 + 17 * k = 17 * (k + 1) by omega, show t + 51 + 51 * k = t + 51 * (k + 1) by omega] at e
    exact e.cast (by omega)
end
end Mine
end
/-! text E8 -/
section
open PySem PySem.W PyProof.Rows PySem.Spec PySem.Calls
set_option maxRecDepth 100000
set_option linter.unusedVariables false
namespace Mine
section
variable {w : World} {t t' t'' : Nat} {p p' p'' q : Pos} {h h' h'' : Heap} {lf : Life} {base subs : List Obj} {es : List DictEntry} {l : List (Int × Str)}
variable {f : (Option (Sem Value) × Sem Value) → Gath → Sem (ForInStep Gath)}
noncomputable def subsOf (t : Nat) (l : List (Int × Str)) : List Obj := (List.range 37).map fun i => dO (ents (t + 51 * i) ((l.drop (17 * i)).take 17))
theorem ev_first (hb : base.length = 56) (hf1 : ∀ (x : Sem Value × Sem Value) run main, run.length + 1 < 17 → f (some x.1, x.2) (main, run) = pure (.yield (main, run ++ [x])))
    (hf0 : ∀ (c : List (Int × Str)) (x : Int × Str) (t : Nat), c.length = 16 → Rising (c ++ [x]) → Ev w 223 (Heap.mk base.toArray lf) t q (f (itemOf q x) (none, c.map (prOf q))) (hp lf base (dO (ents t (c ++ [x]))) []) (t + 51) q (.yield (some 56, [])))
    (hf2 : ∀ (c : List (Int × Str)) (x : Int × Str) (es : List DictEntry) (subs : List Obj) (t : Nat), c.length = 16 → Rising (c ++ [x]) → Off es (c ++ [x]) → es ≠ [] → subs.length < 100 → es.length ≤ 900 →
      Ev w 330 (hp lf base (dO es) subs) t q (f (itemOf q x) (some 56, c.map (prOf q))) (hp lf base (dO (es ++ ents t (c ++ [x]))) (subs ++ [dO (ents t (c ++ [x]))])) (t + 51) q (.yield (some 56, [])))
    (hl : l.length = 650) (hr : Rising l) :
    Ev w 12433 (Heap.mk base.toArray lf) t q (forIn (l.map (itemOf q)) (none, []) f) (hp lf base (dO (ents t (l.take 646))) (subsOf (t + 51) (l.drop 17))) (t + 1938) q (some 56, (l.drop 646).map (prOf q)) := by
  have hl1 : (l.take 17).length = 16 + 1 := by rw [List.length_take]; omega
  obtain ⟨c, x, hc, hcl⟩ := getLast_split hl1
  have hsplit : l = (c ++ [x]) ++ l.drop 17 := by rw [← hc, List.take_append_drop]
  have hcx : (c ++ [x]).length = 17 := by rw [← hc]; exact hl1
  have hr' : Rising ((c ++ [x]) ++ l.drop 17) := hsplit ▸ hr
  have ho' : Off [] ((c ++ [x]) ++ l.drop 17) := fun _ _ _ he => nomatch he
  have hne : ents t (c ++ [x]) ≠ [] := fun e => by
    have := congrArg List.length e
    rw [ents_length, hcx] at this
    cases this
  have ih := ev_chunks (w := w) (q := q) (lf := lf) hb hf1 hf2 37 (l.drop 17) (ents t (c ++ [x])) [] (t + 51) (by rw [List.length_drop]; omega) (List.pairwise_append.mp hr').2.1 (off_ents _ _ t [] hr' ho')
    hne (by decide) (by rw [ents_length, hcx]; decide)
  have e := ev_chunk hf1 (x := prOf q x) ih (c.map (prOf q)) [] (by rw [List.length_nil, List.length_map]; omega) (by rw [List.nil_append]; exact hf0 c x t hcl (List.pairwise_append.mp hr').1)
  have q1 : (c.map (prOf q)).map (fun x => (some x.1, x.2)) ++ (some (prOf q x).1, (prOf q x).2) :: (l.drop 17).map (itemOf q) = l.map (itemOf q) := by
    conv => rhs; rw [hsplit, List.map_append, List.map_append]
    rw [List.map_map, List.append_assoc]
    rfl
  rw [q1] at e
  have e3 : l.take 646 = (c ++ [x]) ++ (l.drop 17).take (17 * 37) := by
    rw [← hc, show (646 : Nat) = 17 + 17 * 37 by omega, List.take_add]
  have e4 := ents_append (c ++ [x]) ((l.drop 17).take (17 * 37)) t
  rw [hcx] at e4
  rw [show t + 51 = t + 3 * 17 by omega, ← e4, ← e3, List.drop_drop, List.nil_append] at e
  have e5 : t + 3 * 17 + 51 * 37 = t + 1938 := by omega
  rw [e5] at e
  exact e
end
section
variable {w : World} {t : Nat} {q : Pos} {lf : Life} {base : List Obj} {l : List (Int × Str)}
theorem ev_display (hb : base.length = 56) (hl : l.length = 650) (hr : Rising l) :
    Ev w 12515 (Heap.mk base.toArray lf) t q (dictDisplay (l.map (itemOf q)))
      (hp lf base (dO (ents t (l.take 646) ++ ents2 (t + 1938) (l.drop 646))) (subsOf (t + 51) (l.drop 17) ++ [dO (ents2 (t + 1938) (l.drop 646))])) (t + 1950) q (.ref 56) := by
  have hz : (l.drop 646).length = 4 := by rw [List.length_drop, hl]
  have hne : ∀ (c : List (Int × Str)) (x : Int × Str), (c.map (prOf q) ++ [prOf q x]).isEmpty = false := fun c x => by cases c <;> rfl
  have hap : ∀ (c : List (Int × Str)) (x : Int × Str), c.map (prOf q) ++ [prOf q x] = (c ++ [x]).map (prOf q) := fun c x => by rw [List.map_append]; rfl
  have hsplit : l.take 646 ++ l.drop 646 = l := List.take_append_drop _ _
  unfold dictDisplay
  dsimp only
  refine Ev.bindn (n := 12433) (m := 82) (ev_first hb (fun x run main hx => ?_) (fun c x t hcl hcr => ?_) (fun c x es subs t hcl hcr ho h0 hs hz => ?_) hl hr) ?_ rfl
  · have hnl : ((run ++ [(x.1, x.2)]).length == 17) = false := by
      rw [List.length_append, List.length_singleton]
      exact beq_eq_false_iff_ne.mpr (by omega)
    simp only [hnl, Bool.false_eq_true, if_false]
  · have hnl : ((c.map (prOf q) ++ [prOf q x]).length == 17) = true := by
      rw [List.length_append, List.length_singleton, List.length_map, hcl]; rfl
    have hcx : (c ++ [x]).length = 17 := by rw [List.length_append, hcl]; rfl
    show Ev w 223 _ _ _ (if ((c.map (prOf q) ++ [prOf q x]).length == 17) = true then _ else _) _ _ _ _
    rw [if_pos hnl, hne, if_neg Bool.false_ne_true, hap]
    refine Ev.bindn (n := 223) (m := 0) (a := some 56) (h' := hp lf base (dO (ents t (c ++ [x]))) []) (t' := t + 51) (p' := q) ?_ (.pure _) rfl
    exact Ev.bindn (n := 223) (m := 0) (ev_sub_first hb hcx hcr) (.pure _) rfl
  · have hnl : ((c.map (prOf q) ++ [prOf q x]).length == 17) = true := by
      rw [List.length_append, List.length_singleton, List.length_map, hcl]; rfl
    have hcx : (c ++ [x]).length = 17 := by rw [List.length_append, hcl]; rfl
    show Ev w 330 _ _ _ (if ((c.map (prOf q) ++ [prOf q x]).length == 17) = true then _ else _) _ _ _ _
    rw [if_pos hnl, hne, if_neg Bool.false_ne_true, hap]
    dsimp only
    refine Ev.bindn (n := 330) (m := 0) (a := some 56) (h' := hp lf base (dO (es ++ ents t (c ++ [x]))) (subs ++ [dO (ents t (c ++ [x]))])) (t' := t + 51) (p' := q) ?_ (.pure _) rfl
    refine Ev.bindn (n := 223) (m := 107) (Ev.holding (ev_sub_next hb hcx hcr)) ?_ rfl
    have e := ev_pour (w := w) (lf := lf) (t := t + 51) (p := q) hb (fs := ents t (c ++ [x])) hs h0 (ents_form _ _) (ents_new _ _ _ hcr ho) (by rw [ents_length, hcx]; omega)
    rw [ents_length, hcx] at e
    exact Ev.bindn (n := 107) (m := 0) (Ev.onRaise (Ev.holding e)) (.pure _) rfl
  · have hrz : Rising (l.drop 646) := (List.pairwise_append.mp (hsplit.symm ▸ hr : Rising (l.take 646 ++ l.drop 646))).2.1
    have hoz : Off (ents t (l.take 646)) (l.drop 646) := off_ents (l.take 646) (l.drop 646) t [] (hsplit.symm ▸ hr) (fun _ _ _ he => nomatch he)
    have hzl : ((l.drop 646).map (prOf q)).isEmpty = false := by
      cases e : l.drop 646 with
      | nil => rw [e] at hz; cases hz
      | cons => rfl
    have h0 : ents t (l.take 646) ≠ [] := fun e => by
      have := congrArg List.length e
      rw [ents_length, List.length_take, hl] at this
      cases this
    have hsl : (subsOf (t + 51) (l.drop 17)).length = 37 := by unfold subsOf; rw [List.length_map, List.length_range]
    dsimp only
    rw [hzl, if_neg Bool.false_ne_true]
    refine Ev.bindn (n := 82) (m := 0) (a := some 56) (h' := hp lf base (dO (ents t (l.take 646) ++ ents2 (t + 1938) (l.drop 646))) (subsOf (t + 51) (l.drop 17) ++ [dO (ents2 (t + 1938) (l.drop 646))])) (t' := t + 1950) (p' := q) ?_ (.pure _) rfl
    refine Ev.bindn (n := 53) (m := 29) (Ev.holding (ev_sub_last hb hz hrz)) ?_ rfl
    have e := ev_pour (w := w) (lf := lf) (t := t + 1938 + 12) (p := q) hb (subs := subsOf (t + 51) (l.drop 17)) (fs := ents2 (t + 1938) (l.drop 646)) (by rw [hsl]; decide) h0 (ents2_form _ _) (ents2_new _ _ _ hrz hoz) (by rw [ents_length, ents2_length, hz, List.length_take, hl]; decide)
    rw [ents2_length, hz] at e
    exact Ev.bindn (n := 29) (m := 0) (Ev.onRaise (Ev.holding e)) (.pure _) rfl
end
end Mine
end
/-! text E9 -/
section
open PySem PySem.W PyProof.Rows PySem.Spec PySem.Calls
set_option maxRecDepth 100000
set_option linter.unusedVariables false
set_option maxHeartbeats 1000000
namespace Mine
/-! the table's statement -/
noncomputable def ks8 : List (Option PySem.Expr) := match pst 8 with
  | .Assign _ (.Dict ks _ _) _ => ks
  | _ => []
noncomputable def vs8 : List PySem.Expr := match pst 8 with
  | .Assign _ (.Dict _ vs _) _ => vs
  | _ => []
noncomputable def dp8 : Pos := match pst 8 with
  | .Assign _ (.Dict _ _ p) _ => p
  | _ => default
noncomputable def np8 : Pos := match pst 8 with
  | .Assign [.Name _ p] _ _ => p
  | _ => default
noncomputable def ap8 : Pos := match pst 8 with
  | .Assign _ _ p => p
  | _ => default
theorem pst8 : pst 8 = .Assign [.Name "b3_exceptions" np8] (.Dict ks8 vs8 dp8) ap8 := by kernel_rfl
theorem shape8 : (evalEachOpt ks8 envT).zip ((evalEach vs8 envT).map fun v => do let x ← v; standAt dp8; pure x) = b3list.map (itemOf dp8) := by kernel_rfl
theorem b3len : b3list.length = 650 := by decide +kernel
noncomputable def incB : Int → List (Int × Str) → Bool
  | _, [] => true
  | a, (k, _) :: r => decide (a < k) && (decide (k < 2000000) && incB k r)
theorem b3inc : incB (-1) b3list = true := by decide +kernel
theorem incB_lt : ∀ {l : List (Int × Str)} {a : Int}, incB a l = true → ∀ x ∈ l, a < x.1 ∧ x.1 < 2000000
  | (k, s) :: r, a, h, x, hx => by
    unfold incB at h
    simp only [Bool.and_eq_true, decide_eq_true_eq] at h
    rcases List.mem_cons.mp hx with rfl | hx
    · exact ⟨h.1, h.2.1⟩
    · have := incB_lt h.2.2 x hx
      exact ⟨Int.lt_trans h.1 this.1, this.2⟩
theorem hashInt_small {k : Int} (h0 : 0 ≤ k) (h1 : k < 2000000) : hashInt k = k := by
  have e : rawHash k = k := by
    have h2 : (k.natAbs : Int) % ((2 ^ 61 - 1 : Nat) : Int) = k := by
      rw [Int.natAbs_of_nonneg h0]
      exact Int.emod_eq_of_lt h0 (Int.lt_trans h1 (by decide))
    unfold rawHash
    rw [h2]
    dsimp only
    rw [if_neg (by omega : ¬ k < 0), if_neg (by rw [beq_iff_eq]; omega)]
  unfold hashInt
  rw [e, if_neg (by rw [beq_iff_eq]; omega)]
theorem rising_of : ∀ {l : List (Int × Str)} {a : Int}, -1 ≤ a → incB a l = true → Rising l
  | [], _, _, _ => List.Pairwise.nil
  | (k, s) :: r, a, ha, h => by
    unfold incB at h
    simp only [Bool.and_eq_true, decide_eq_true_eq] at h
    refine List.pairwise_cons.mpr ⟨fun x hx => ?_, rising_of (by omega) h.2.2⟩
    have := incB_lt h.2.2 x hx
    rw [hashInt_small (by omega) h.2.1, hashInt_small (by omega) this.2]
    show k ≠ x.1
    omega
theorem b3rising : Rising b3list := rising_of (Int.le_refl _) b3inc
noncomputable abbrev lfT : Life := (PySem.Life.mk [] [] [] 0 [] [] Bool.false (List.toArray []) [] 0 Bool.false Bool.false Bool.false (0 : Int) [(2000 : Int), (10 : Int), (10 : Int)] Bool.false 0 Bool.true [] [] 0 Bool.false)
noncomputable def subs8 (P : Params) : List Obj := (List.range 38).map fun j => b3sub j P
theorem subs8_eq (P : Params) : subsOf (296 + 51) (b3list.drop 17) ++ [dO (ents2 (296 + 1938) (b3list.drop 646))] = subs8 P := by
  have e1 : subsOf (296 + 51) (b3list.drop 17) = (List.range 37).map fun j => b3sub j P := by
    unfold subsOf
    refine List.map_congr_left fun i hi => ?_
    have hi := List.mem_range.mp hi
    unfold b3sub b3chunk
    rw [if_pos hi, List.drop_drop, show 17 + 17 * i = 17 * (i + 1) by omega, show 296 + 51 + 51 * i = 296 + 51 * (i + 1) by omega]
  have e2 : dO (ents2 (296 + 1938) (b3list.drop 646)) = b3sub 37 P := by
    unfold b3sub b3chunk
    have e3 : (b3list.drop (17 * (37 + 1))).length ≤ 17 := by rw [List.length_drop, b3len]; decide
    have e4 : b3list.drop 646 = (b3list.drop (17 * (37 + 1))).take 17 := (List.take_of_length_le e3).symm
    rw [if_neg (by decide : ¬ 37 < 37)]
    exact congrArg (fun l => dO (ents2 2234 l)) e4
  have e5 : subs8 P = (List.range 37).map (fun j => b3sub j P) ++ [b3sub 37 P] := by
    unfold subs8
    rw [List.range_succ (n := 37), List.map_append]
    rfl
  rw [e1, e2, e5]
section
variable {w : World}
theorem lC_len (P : Params) : (lC P).length = 56 := by kernel_rfl
theorem ev_eight : Ev w 12517 (Heap.mk (lC w.params).toArray lfT) 296 ⟨50, 0, 51, 30⟩ (standAt ap8 >>= fun _ => eval (.Dict ks8 vs8 dp8) envT) (hp lfT (lC w.params) (b3main w.params) (subs8 w.params)) 2246 dp8 (.ref 56) := by
  refine Ev.bindn (n := 1) (m := 12516) ev_at ?_ rfl
  rw [arm_eval_Dict]
  refine Ev.bindn (n := 1) (m := 12515) ev_at ?_ rfl
  rw [shape8]
  have e := ev_display (w := w) (t := 296) (q := dp8) (lf := lfT) (base := lC w.params) (lC_len _) b3len b3rising
  rw [subs8_eq w.params] at e
  exact e
end
end Mine
end
/-! text E10 -/
section
open PySem PySem.W PyProof.Rows PySem.Spec PySem.Calls
set_option maxRecDepth 100000
set_option linter.unusedVariables false
set_option maxHeartbeats 1000000
namespace Mine
noncomputable def sD : List Stmt := [pst 8]
noncomputable abbrev stD1 (w : World) (os : OsState) : Shared := ⟨hp lfT (lC w.params) (b3main w.params) (subs8 w.params), #[], ⟨0, 0, 0, 0⟩, 2246, os⟩
noncomputable abbrev k8 (v : Value) : Sem Flow := do standAt np8; bindName envT "b3_exceptions" v; pure .next
noncomputable abbrev kE8 : Flow → Sem PySem.Fin := fun f => match f with
  | .next => (execs [] envT).wrap doneF deadEnd id id
  | f => doneF f
theorem pieceD2 : ∀ w : World, (fun os => segRun treeTable pw w 11 annT 1 8 (stD1 w os) ⟨(k8 (.ref 56)).wrap kE8 deadEnd id id, codeT, dp8, [topFrame ⟨0,0,0,0⟩]⟩) = fun os => some (Flow.next, (stT (tD w.params) 95 2247 os).abs, codeT, ⟨52, 0, 52, 13⟩) := fun w => by kernel_rfl
theorem startD (w : World) (os : OsState) : (stT (tC w.params) 56 296 os).abs = ⟨Heap.mk (lC w.params).toArray lfT, #[], ⟨0, 0, 0, 0⟩, 296, os⟩ := by kernel_rfl
theorem exec8 : exec (pst 8) envT = (standAt ap8 >>= fun _ => eval (.Dict ks8 vs8 dp8) envT) >>= k8 := by
  rw [pst8, exec_Assign_Name _ _ _ _ _ (by rfl)]
  rw [bind_assoc]
theorem pieceD (w : World) (os : OsState) : segRun treeTable pw w 11 annT 1 12525 (stT (tC w.params) 56 296 os).abs (piecesOf sD envT codeT ⟨50, 0, 51, 30⟩ [topFrame ⟨0,0,0,0⟩]) = some (Flow.next, (stT (tD w.params) 95 2247 os).abs, codeT, ⟨52, 0, 52, 13⟩) := by
  rw [startD]
  have e := ev_eight (w := w) ⟨fun v => (k8 v).wrap kE8 deadEnd id id, deadEnd, id, id, bodyT, envT, topFrame ⟨0,0,0,0⟩, #[], ⟨0, 0, 0, 0⟩, os⟩ 8 _ (congrFun (pieceD2 w) os)
  have q : (execs sD envT).wrap doneF deadEnd id id = (standAt ap8 >>= fun _ => eval (.Dict ks8 vs8 dp8) envT).wrap (fun v => (k8 v).wrap kE8 deadEnd id id) deadEnd id id := by
    unfold sD
    rw [execs_cons_wrap, exec8, Sem.bind_eq_wrap', Sem.wrap_wrap]
    rfl
  unfold piecesOf
  rw [q]
  exact e
end Mine
end
/-! text L1 -/
section
open PySem PySem.W PyProof.Rows PySem.Spec PySem.Calls
set_option maxRecDepth 100000
set_option linter.unusedVariables false
set_option maxHeartbeats 1000000
namespace Mine
/-! the head: what the top leaves -/
noncomputable def keepL : List Nat := [13]
noncomputable def qV : Program := { pw with main := { pw.main with body := keepL.filterMap fun i => pw.main.body[i]? } }
noncomputable def looseV : List PySem.Str := [PySem.Str.ofString "_int2digits", PySem.Str.ofString "_digits2int", PySem.Str.ofString "bisect_left", PySem.Str.ofString "b1_set", PySem.Str.ofString "in_table_b1", PySem.Str.ofString "b3_exceptions", PySem.Str.ofString "map_table_b3", PySem.Str.ofString "_law_sign", PySem.Str.ofString "_law_prepared"]
noncomputable def xtV (s : Shared) : Bool := xlAt qV [] s && recOk (RowW.records PySem.Challenge.rw_rs0184_01.row.toRowW) s
theorem openV : ∀ w : World, (fencedOpening treeTable pw w 30000).map (fun s => (s.heap, s.gens, s.drawn, s.toks)) = some (boot_heap w.params, Array.mk [], boot_drawn, boot_toks) :=
  boot_open (by kernel_rfl) (by decide +kernel) (fun s => by kernel_rfl)
theorem sizeV : ∀ w : World, ((boot_heap w.params).isNs mainGlobals && (Array.mk [] : Array GenState).size == 0, (boot_heap w.params).objs.size, (boot_heap w.params).nsMap mainGlobals "__annotations__") = (true, 11, annT) := fun w => by kernel_rfl
noncomputable abbrev hE (P : Params) : Heap := absHeap (tE P) 117 lfT
theorem bodyV : bodyT = sA ++ (sB ++ (sC ++ (sD ++ (sE ++ [])))) := by kernel_rfl
theorem topDone (w : World) (os : OsState) : topRun treeTable pw w 11 annT (12 + (1 + (135 + (999 + (30 + (12525 + (118 + 2))))))) ⟨boot_heap w.params, Array.mk [], boot_drawn, boot_toks, os⟩ (topStub pw) = some ⟨hE w.params, #[], ⟨0, 0, 0, 0⟩, 2275, os⟩ := by
  refine go_top (congrFun (piecePre w) os) ?_
  refine piece_block (congrFun (pieceBlock w) os) ?_
  rw [bodyV]
  refine piece_app (segRun_of (congrFun (pieceA w) os)) ?_
  refine piece_app (segRun_of (by have := congrFun (pieceB w) os; rw [tbl_eq]; exact this)) ?_
  refine piece_app (segRun_of (congrFun (pieceC w) os)) ?_
  refine piece_app (pieceD w os) ?_
  refine piece_app (segRun_of (congrFun (pieceE w) os)) ?_
  refine piece_nil ?_
  exact congrFun (pieceFin w) os
end Mine
end
/-! text L2 -/
section
open PySem PySem.W PyProof.Rows PySem.Spec PySem.Calls
set_option maxRecDepth 100000
set_option maxHeartbeats 0
namespace Mine
noncomputable abbrev sE1 (w : World) (os : OsState) : Shared := ⟨hE w.params, #[], ⟨0, 0, 0, 0⟩, 2275, os⟩
theorem look1 : ∀ w : World, (fun os => (staticsOk (importedModules pw.main.body) (boot_heap w.params) (hE w.params) && namesBound pw (hE w.params) && gensDone (sE1 w os) && laidKept (boot_heap w.params) (hE w.params))) = fun _ => true := fun w => by kernel_rfl
theorem look2 : ∀ w : World, (fun os => openSeen qV looseV (importedModules pw.main.body) xtV true (sE1 w os)) = fun _ => openGood qV looseV := fun w => by kernel_rfl
end Mine
end
/-! text W1 -/
section
open PySem PySem.W PyProof.Rows PySem.Spec PySem.Calls
set_option maxRecDepth 100000
set_option linter.unusedVariables false
set_option maxHeartbeats 1000000
namespace Mine
/-! what stands behind the top, for the law's call -/
noncomputable def kxM (P : Params) : Frag := [(3, oE_3 P), (4, boot_o_4 P), (16, oA_16 P), (20, oA_20 P), (21, oA_21 P), (23, oA_23 P), (27, oA_27 P), (28, oA_28 P), (29, oA_29 P), (30, oA_30 P), (36, oA_36 P), (37, oA_37 P), (45, oB_45 P), (54, oC_54 P), (55, oC_55 P), (56, b3main P), (100, oE_100 P), (101, oE_101 P), (105, oE_105 P), (106, oE_106 P), (110, oE_110 P), (111, oE_111 P), (115, oE_115 P), (116, oE_116 P)]
noncomputable def kasM : List Addr := [3, 4, 16, 20, 21, 23, 27, 28, 29, 30, 36, 37, 45, 54, 55, 56, 100, 101, 105, 106, 110, 111, 115, 116]
noncomputable def hkM : Hook := kHook kxM kasM (fun _ => by kernel_rfl)
theorem look3 : ∀ w : World, (fun os => hkM.obs (sE1 w os)) = fun _ => hkM.val w := fun w => by kernel_rfl
theorem leftV : LeftO pw qV looseV xtV hkM.obs hkM.val 30000 :=
  LeftO.of_pieces openV sizeV topDone (by decide +kernel) (fun w => by
    funext os
    exact Prod.ext (congrFun (look1 w) os) (Prod.ext (congrFun (look2 w) os) (congrFun (look3 w) os)))
end Mine
end
/-! text W2 -/
section
open PySem PySem.W PyProof.Rows PySem.Spec PySem.Calls
set_option maxRecDepth 100000
set_option linter.unusedVariables false
set_option maxHeartbeats 1000000
namespace Mine
noncomputable abbrev tabsM : List (Addr × Addr) := [(20, 16), (27, 23)]
section
variable {w : World} {P : Params} {h : Heap}
theorem hd20 (X : (kxM P).In h) : CodeHd h 20 16 := ⟨oA_20 P, _, _, _, _, _, _, _, _, X 20 _ rfl, rfl, rfl, rfl, rfl, rfl, rfl, rfl, rfl, by decide⟩
theorem hd27 (X : (kxM P).In h) : CodeHd h 27 23 := ⟨oA_27 P, _, _, _, _, _, _, _, _, X 27 _ rfl, rfl, rfl, rfl, rfl, rfl, rfl, rfl, rfl, by decide⟩
theorem tabsAt (X : (kxM P).In h) : TabsAt tabsM h := fun q hq => by
  rcases List.mem_cons.mp hq with rfl | hq
  · exact ⟨hd20 X, X 16 _ rfl⟩
  · rw [List.mem_singleton.mp hq]
    exact ⟨hd27 X, X 23 _ rfl⟩
theorem gX (X : (kxM P).In h) {a : Addr} {o : Obj} (e : (kxM P).lookup a = some o) (ha : a ≠ 16 := by decide) (hb : a ≠ 23 := by decide) : (ghostOf h tabsM).get? a = some o :=
  ghost_ne (X a o e) (by
    intro q
    rcases List.mem_cons.mp q with q | q
    · exact ha q
    · exact hb (List.mem_singleton.mp q))
theorem fn21 (P : Params) : oA_21 P = mkFn (pst 1) .none .none (.str "cpy313._pylong" 187) (.ref 20) := by kernel_rfl
theorem fn28 (P : Params) : oA_28 P = mkFn (pst 2) .none .none (.str "cpy313._pylong" 187) (.ref 27) := by kernel_rfl
theorem fn37 (P : Params) : oA_37 P = mkFn (pst 4) (.ref 29) (.ref 30) (.str "cpy313.bisect" 211) (.ref 36) := by kernel_rfl
theorem fn55 (P : Params) : oC_55 P = mkFn (pst 7) .none .none (.str "cpy313.stringprep" 227) (.ref 54) := by kernel_rfl
theorem fn101 (P : Params) : oE_101 P = mkFn (pst 9) .none .none (.str "cpy313.stringprep" 227) (.ref 100) := by kernel_rfl
theorem fn106 (P : Params) : oE_106 P = mkFn (pst 11) .none .none (.str "law_rs0184_01" 2255) (.ref 105) := by kernel_rfl
theorem fn111 (P : Params) : oE_111 P = mkFn (pst 12) .none .none (.str "law_rs0184_01" 2255) (.ref 110) := by kernel_rfl
theorem fn116 (P : Params) : oE_116 P = mkFn (pst 13) .none .none (.str "law_rs0184_01" 2255) (.ref 115) := by kernel_rfl
/-! the names of the text -/
noncomputable def es3 (P : Params) : Array DictEntry := match (oE_3 P).data with
  | .dict es _ => es
  | _ => #[]
theorem globs3 (P : Params) : (globs.all fun p => decide (nsFind (es3 P) p.1 = p.2)) = true := by kernel_rfl
/-! the set -/
noncomputable def es45 (P : Params) : Array (Int × Value) := match (oB_45 P).data with
  | .set es _ _ => es
  | _ => #[]
noncomputable def t45 (P : Params) : SetTable := match (oB_45 P).data with
  | .set _ _ t => t
  | _ => default
noncomputable def elemOk (e : Int × Value) : Bool := match e.2 with
  | .int k _ => decide (e.1 = hashInt k) && e.2.scannable
  | _ => false
noncomputable def elemInt (e : Int × Value) : Int := match e.2 with
  | .int k _ => k
  | _ => 0
theorem elems45 (P : Params) : (es45 P).toList.all elemOk = true := by kernel_rfl
theorem vals45a (P : Params) : ((es45 P).toList.map elemInt).all (fun k => b1list.contains k) = true := by kernel_rfl
theorem vals45b (P : Params) : b1list.all (fun k => ((es45 P).toList.map elemInt).contains k) = true := by kernel_rfl
theorem vals45 (P : Params) (k : Int) : k ∈ b1list ↔ k ∈ (es45 P).toList.map elemInt :=
  ⟨fun h => List.contains_iff_mem.mp (List.all_eq_true.mp (vals45b P) k h), fun h => List.contains_iff_mem.mp (List.all_eq_true.mp (vals45a P) k h)⟩
theorem size45 (P : Params) : (es45 P).size = 27 := by kernel_rfl
theorem set45 (X : (kxM P).In h) (w : World) : (ghostOf h tabsM).SetOf (intKind pw w) 45 (fun k => decide (k ∈ b1list)) 27 := by
  have ok : ∀ e ∈ (es45 P).toList, ∃ k u, e = (hashInt k, .int k u) ∧ (Value.int k u).scannable = true := fun e he => by
    have := List.all_eq_true.mp (elems45 P) e he
    obtain ⟨a, v⟩ := e
    cases v with
    | int k u =>
      simp only [elemOk, Bool.and_eq_true, decide_eq_true_eq] at this
      exact ⟨k, u, by rw [this.1], this.2⟩
    | _ => cases this
  refine ⟨oB_45 P, es45 P, 29, t45 P, gX X rfl, ⟨rfl, rfl, rfl⟩, rfl, fun e he => ?_, fun k => ?_, by rw [size45 P]; decide, by kernel_rfl, size45 P⟩
  · obtain ⟨k, u, rfl, hs⟩ := ok e he
    exact ⟨⟨k, beq_self_eq_true k, rfl⟩, hs⟩
  · rw [decide_eq_true_eq, vals45 P]
    constructor
    · intro hk
      obtain ⟨e, he, rfl⟩ := List.mem_map.mp hk
      obtain ⟨k, u, rfl, _⟩ := ok e he
      exact ⟨_, he, beq_self_eq_true k⟩
    · rintro ⟨e, he, hk⟩
      obtain ⟨k', u, rfl, _⟩ := ok e he
      have : k' = k := eq_of_beq hk
      exact List.mem_map.mpr ⟨_, he, this⟩
/-! the table -/
theorem find_ents (k : Int) : ∀ (l : List (Int × Str)) (t : Nat), match (l.find? fun p => p.1 = k).map (·.2) with
    | none => ((ents t l).find? fun e => Value.isInt k e.key).map (·.val) = none
    | some v => ∃ u, ((ents t l).find? fun e => Value.isInt k e.key).map (·.val) = some (.str v u)
  | [], t => rfl
  | (a, s) :: r, t => by
    rw [ents]
    by_cases q : a = k
    · have e1 : decide ((a, s).1 = k) = true := decide_eq_true q
      have e2 : Value.isInt k (Value.int a t) = true := beq_iff_eq.mpr q
      rw [List.find?_cons_of_pos (p := fun p : Int × Str => decide (p.1 = k)) e1, List.find?_cons_of_pos (p := fun e : DictEntry => Value.isInt k e.key) e2]
      exact ⟨t + 1, rfl⟩
    · have e1 : ¬ decide ((a, s).1 = k) = true := fun h => q (of_decide_eq_true h)
      have e2 : ¬ Value.isInt k (Value.int a t) = true := fun h => q (beq_iff_eq.mp h)
      rw [List.find?_cons_of_neg (p := fun p : Int × Str => decide (p.1 = k)) e1, List.find?_cons_of_neg (p := fun e : DictEntry => Value.isInt k e.key) e2]
      exact find_ents k r (t + 3)
theorem find_ents2 (k : Int) : ∀ (l : List (Int × Str)) (t : Nat), match (l.find? fun p => p.1 = k).map (·.2) with
    | none => ((ents2 t l).find? fun e => Value.isInt k e.key).map (·.val) = none
    | some v => ∃ u, ((ents2 t l).find? fun e => Value.isInt k e.key).map (·.val) = some (.str v u)
  | [], t => rfl
  | (a, s) :: r, t => by
    rw [ents2]
    by_cases q : a = k
    · have e1 : decide ((a, s).1 = k) = true := decide_eq_true q
      have e2 : Value.isInt k (Value.int a t) = true := beq_iff_eq.mpr q
      rw [List.find?_cons_of_pos (p := fun p : Int × Str => decide (p.1 = k)) e1, List.find?_cons_of_pos (p := fun e : DictEntry => Value.isInt k e.key) e2]
      exact ⟨t + 1, rfl⟩
    · have e1 : ¬ decide ((a, s).1 = k) = true := fun h => q (of_decide_eq_true h)
      have e2 : ¬ Value.isInt k (Value.int a t) = true := fun h => q (beq_iff_eq.mp h)
      rw [List.find?_cons_of_neg (p := fun p : Int × Str => decide (p.1 = k)) e1, List.find?_cons_of_neg (p := fun e : DictEntry => Value.isInt k e.key) e2]
      exact find_ents2 k r (t + 2)
theorem find_all (k : Int) : match b3look k with
    | none => findBy Value.isInt b3all.toArray k = none
    | some v => ∃ u, findBy Value.isInt b3all.toArray k = some (.str v u) := by
  have hs : b3list = b3list.take 646 ++ b3list.drop 646 := (List.take_append_drop _ _).symm
  have a := find_ents k (b3list.take 646) 296
  have b := find_ents2 k (b3list.drop 646) 2234
  have e : b3look k = (((b3list.take 646).find? fun p => p.1 = k).map (·.2)).or (((b3list.drop 646).find? fun p => p.1 = k).map (·.2)) := by
    unfold b3look
    conv => lhs; rw [hs]
    rw [List.find?_append]
    cases (b3list.take 646).find? fun p => p.1 = k <;> rfl
  have f : findBy Value.isInt b3all.toArray k = (((ents 296 (b3list.take 646)).find? fun e => Value.isInt k e.key).map (·.val)).or (((ents2 2234 (b3list.drop 646)).find? fun e => Value.isInt k e.key).map (·.val)) := by
    unfold findBy b3all
    rw [List.find?_toArray, List.find?_append]
    cases (ents 296 (b3list.take 646)).find? fun e => Value.isInt k e.key <;> rfl
  rw [e, f]
  cases q : ((b3list.take 646).find? fun p => p.1 = k).map (·.2) with
  | none =>
    rw [q] at a
    dsimp only at a
    rw [a]
    exact b
  | some v =>
    rw [q] at a
    obtain ⟨u, a⟩ := a
    rw [a]
    exact ⟨u, rfl⟩
theorem map56 (X : (kxM P).In h) (w : World) : ∃ f, (ghostOf h tabsM).MapOf (intKind pw w) 56 f ∧ ∀ k, match b3look k with | none => f k = none | some v => ∃ t, f k = some (.str v t) := by
  refine ⟨fun k => findBy Value.isInt b3all.toArray k, ⟨b3main P, b3all.toArray, b3all.length, gX X rfl, ⟨rfl, rfl, rfl⟩, rfl, fun e he => ?_, fun _ => rfl⟩, find_all⟩
  have he : e ∈ b3all := by simpa using he
  have : ∃ k u v, e = ⟨hashInt k, .int k u, v⟩ := by
    rcases List.mem_append.mp he with he | he
    · exact ents_form _ _ e he
    · exact ents2_form _ _ e he
  obtain ⟨k, u, v, rfl⟩ := this
  exact ⟨k, beq_self_eq_true k, rfl⟩
end
end Mine
end
/-! text W3 -/
section
open PySem PySem.W PyProof.Rows PySem.Spec PySem.Calls
set_option maxRecDepth 100000
set_option linter.unusedVariables false
set_option maxHeartbeats 1000000
namespace Mine
theorem law3 (P : Params) : nsFind (es3 P) "law" = some (.ref 116) := by kernel_rfl
theorem mg_find {P : Params} {h : Heap} {mg : Str → Option Value} (X : (kxM P).In h) (g : h.Ns mainGlobals mg) (x : Str) : nsFind (es3 P) x = mg x := by
  obtain ⟨o, es, ep, e, hd, _, hm⟩ := g
  have e3 : h.get? mainGlobals = some (oE_3 P) := X 3 _ rfl
  rw [e3] at e
  cases e
  have : es3 P = es := by
    unfold es3
    rw [hd]
  rw [this]
  exact hm x
theorem bs0 {w : World} {h : Heap} {p : Program} {loose : List Str} {mean : ExcName → Option Value} {mg mb : Str → Option Value} (X : (kxM w.params).In h) (T : Top p loose mean mg mb h) : Bs0 w (ghostOf h tabsM) where
  g := ⟨mg, ghost_ns (tabsAt X) T.g, fun p hp => (mg_find X T.g p.1).symm.trans (of_decide_eq_true (List.all_eq_true.mp (globs3 w.params) p hp))⟩
  b := ⟨mb, ghost_ns (tabsAt X) T.b, T.builtins⟩
  lim := let ⟨mc, a, r⟩ := T.nolimit; ⟨mc, ghost_ns (tabsAt X) a, r⟩
  b4 := gX X (o := boot_o_4 w.params) rfl
  k20 := (ghost_code (tabsAt X)).1
  k27 := (ghost_code (tabsAt X)).2.1
  f21 := ⟨_, (gX X (o := oA_21 w.params) rfl).trans (congrArg some (fn21 _))⟩
  f28 := ⟨_, (gX X (o := oA_28 w.params) rfl).trans (congrArg some (fn28 _))⟩
  f37 := ⟨_, (gX X (o := oA_37 w.params) rfl).trans (congrArg some (fn37 _))⟩
  f55 := ⟨_, (gX X (o := oC_55 w.params) rfl).trans (congrArg some (fn55 _))⟩
  f101 := ⟨_, (gX X (o := oE_101 w.params) rfl).trans (congrArg some (fn101 _))⟩
  f106 := ⟨_, (gX X (o := oE_106 w.params) rfl).trans (congrArg some (fn106 _))⟩
  f111 := ⟨_, (gX X (o := oE_111 w.params) rfl).trans (congrArg some (fn111 _))⟩
  f116 := ⟨_, (gX X (o := oE_116 w.params) rfl).trans (congrArg some (fn116 _))⟩
  d29 := ⟨213, 0, gX X (o := oA_29 w.params) rfl⟩
  d30 := ⟨PyData.keyHash w.params "key", 214, 1, gX X (o := oA_30 w.params) rfl⟩
  c20 := ⟨20, oA_20 w.params, _, 190, rfl, gX X rfl, rfl, rfl⟩
  c27 := ⟨27, oA_27 w.params, _, 201, rfl, gX X rfl, rfl, rfl⟩
  c36 := ⟨36, oA_36 w.params, _, 216, rfl, gX X rfl, rfl, rfl⟩
  c54 := ⟨54, oC_54 w.params, _, _, rfl, gX X rfl, rfl, rfl⟩
  c100 := ⟨100, oE_100 w.params, _, _, rfl, gX X rfl, rfl, rfl⟩
  c105 := ⟨105, oE_105 w.params, _, _, rfl, gX X rfl, rfl, rfl⟩
  c110 := ⟨110, oE_110 w.params, _, _, rfl, gX X rfl, rfl, rfl⟩
  c115 := ⟨115, oE_115 w.params, _, _, rfl, gX X rfl, rfl, rfl⟩
  s45 := set45 X w
  d56 := map56 X w
theorem st0 {P : Params} {h : Heap} (X : (kxM P).In h) : St ⟨ghostOf h tabsM, none, none⟩ h [] where
  keep := fun b o e => of_hideAll _ e
  led := fun p hp => nomatch hp
  nodup := List.nodup_nil
  off := fun p hp => nomatch hp
  t1 := ⟨X 16 _ rfl, fun c e => nomatch e⟩
  t2 := ⟨X 23 _ rfl, fun c e => nomatch e⟩
  o1 := hideAll_none _ (.head _)
  o2 := hideAll_none _ (.tail _ (.head _))
/-- what stood stands: the two tables of codes alone may have grown -/
theorem old_of {P : Params} {h h' : Heap} {g : Gd} (X : (kxM P).In h) (hg : g.base = ghostOf h tabsM) (S : St g h' []) : OldK h h' := by
  have keep : ∀ b o, b ≠ 16 → b ≠ 23 → h.get? b = some o → h'.get? b = some o := fun b o h1 h2 e => S.keep b o (by
    rw [hg]
    refine ghost_ne e fun q => ?_
    rcases List.mem_cons.mp q with q | q
    · exact h1 q
    · exact h2 (List.mem_singleton.mp q))
  have T := tabsAt X
  have g16 := S.t1.at_
  have g23 := S.t2.at_
  have a16 : h.get? 16 = some (tabObj #[]) := X 16 _ rfl
  have a23 : h.get? 23 = some (tabObj #[]) := X 23 _ rfl
  refine ⟨fun b o e => ?_, fun b o e => ?_⟩
  · by_cases h1 : b = 16
    · subst h1
      rw [a16] at e
      cases e
      exact .inr (.inl ⟨((hd20 X).tab a16).isCodeTable, rfl, #[], _, rfl, by rw [Array.empty_append]; exact g16⟩)
    by_cases h2 : b = 23
    · subst h2
      rw [a23] at e
      cases e
      exact .inr (.inl ⟨((hd27 X).tab a23).isCodeTable, rfl, #[], _, rfl, by rw [Array.empty_append]; exact g23⟩)
    exact .inl (keep b o h1 h2 e)
  · by_cases h1 : b = 16
    · subst h1; exact ⟨_, g16⟩
    by_cases h2 : b = 23
    · subst h2; exact ⟨_, g23⟩
    exact ⟨o, keep b o h1 h2 e⟩
end Mine
end
/-! text W4 -/
section
open PySem PySem.W PyProof.Rows PySem.Spec PySem.Calls
set_option maxRecDepth 100000
set_option linter.unusedVariables false
set_option maxHeartbeats 4000000
namespace Mine
theorem fd116 (P : Params) : (oE_116 P).data = .func (fdL ⟨.str "law_rs0184_01" 2255, .ref 115, .none, .none, .none, 116⟩) := by kernel_rfl
theorem walkV {kwd : List (Str × PySem.Expr)} {d : DefRec} (hdef : defOf qV PySem.Challenge.rw_rs0184_01.name = some (d, kwd)) :
    WalkO qV looseV (XL qV []) hkM.says PySem.Challenge.rw_rs0184_01.row.toRowW d kwd fun f vs => PySem.call f vs := by
  intro w s₀ s₁ mg mb G Y fa o pm cd doc dV kV ho hd hcd hD hmg hg args vals as hpre hlay hrd hwl hlo
  have X : (kxM w.params).In s₁.heap := kIn_of Y
  have T := G.T
  have hn : d.name = "law" := defOf_name hdef
  rw [hn, ← mg_find X T.g, law3] at hmg
  cases hmg
  have hfa : s₁.heap.get? 116 = some (oE_116 w.params) := X 116 _ rfl
  clear ho hd hcd hD
  wrow_args hpre hlay hrd hwl hlo
  rename s₁.heap.IsList _ _ => hL
  rename List Int => ns
  rename IntsAre _ _ => hI
  rename ¬ ((63 : Nat) : Int) < _ => hc
  refine c_law (ns := ns) (h₀ := ⟨ghostOf s₁.heap tabsM, none, none⟩) (H := []) (bs0 X T) rfl (by decide) (by decide) ?script ?len (st0 X) hfa (fd116 _) ⟨115, oE_115 w.params, _, _, rfl, X 115 _ rfl, rfl, rfl⟩ fun g h' tk hgb S => ?_
  case script =>
    obtain ⟨o, e, hcls, n, hdt⟩ := ghost_list (tabsAt X) hL
    exact ⟨o, _, n, e, hcls, hdt, hI⟩
  case len => omega
  refine ⟨.inl ⟨.bool true, ofPy (.bool true), [], rfl, fun _ => rfl, ?reads, ?post, fun _ => ⟨List.nodup_nil, fun _ h => nomatch h⟩⟩, old_of X hgb S, rfl, .of_eq hg⟩
  case reads => constructor
  case post => wrow_post
end Mine
end
open PySem PySem.W PyProof.Rows
set_option maxRecDepth 100000
namespace Mine
theorem saidV : PySem.Challenge.rw_rs0184_01.wellSaid = true := by
  unfold OpenLaw.wellSaid OpenRow.wellSaid OpenRow.partSaid looksOpen
  repeat' (with_reducible refine look_both ?_ ?_)
  all_goals decide +kernel
end Mine

open Mine
set_option maxRecDepth 100000 in
set_option maxHeartbeats 8000000 in
theorem PySem.Challenge.cw_rs0184_01_holds : PySem.Challenge.rw_rs0184_01.Holds := by
  w_on
  refine holds_law saidV fun said => ?_
  refine holds_open (q := qV) (loose := looseV) (Xt := xtV) (XP := XL qV []) (Yf := hkM.obs) (Ya := hkM.val) (YP := hkM.says) (N := 30000) leftV hkM.of hkM.keeps (fun s e => xl_of s (Bool.and_eq_true_iff.mp e).1) XL.keeps (by rfl) (by rfl) (by rfl) (fun s e => recFacts_of (Bool.and_eq_true_iff.mp e).2) (by rfl) (by assumption) (by decide +kernel) ⟨rfl, rfl, rfl, rfl, rfl, by decide +kernel⟩ ?hw ?hc
  case hw => w_witness2
  case hc => exact walkV rfl
