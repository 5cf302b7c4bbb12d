import PyProof.Rows.All
import Wide.All
import OpenK.AllK
import Wide.FinOn
import Lean
import PySem.Challenge.RW_sl0020_01
set_option maxRecDepth 100000
set_option Elab.async false
open PySem PySem.W PyProof.Rows PySem.Calls PySem.Spec
namespace Mine
section partMine1
/-- what any step of the call keeps -/
structure Ext (s s' : Shared) : Prop where
  keep : ∀ b o, s.heap.get? b = some o → s'.heap.get? b = some o
  gens : s'.gens = s.gens
  os : s'.os = s.os
theorem Ext.rfl' (s : Shared) : Ext s s := ⟨fun _ _ e => e, rfl, rfl⟩
theorem Ext.trans {s s' s'' : Shared} (a : Ext s s') (b : Ext s' s'') : Ext s s'' :=
  ⟨fun x o e => b.keep x o (a.keep x o e), b.gens.trans a.gens, b.os.trans a.os⟩

/-- only the tokens moved -/
structure Sim (s s' : Shared) : Prop where
  heap : s'.heap = s.heap
  gens : s'.gens = s.gens
  os : s'.os = s.os
theorem Sim.ext {s s' : Shared} (a : Sim s s') : Ext s s' := ⟨fun _ _ e => by rw [a.heap]; exact e, a.gens, a.os⟩

abbrev Nw := List (Addr × Obj)

/-- the state inside a frame: its base s₀, its locals m at L, the ledger of what it made -/
structure St (s₀ : Shared) (L : Addr) (m : Str → Option Value) (news : Nw) (s : Shared) : Prop where
  fr : Fr s₀.heap L s.heap m
  nw : News s₀.heap L s.heap news
  nd : (news.map (·.1)).Nodup
  gens : s.gens = s₀.gens
  os : s.os = s₀.os

section
variable {s₀ s s' : Shared} {L a : Addr} {m m' : Str → Option Value} {news : Nw} {o : Obj}
theorem St.ext (S : St s₀ L m news s) : Ext s₀ s := ⟨S.fr.keep, S.gens, S.os⟩
theorem St.sim (S : St s₀ L m news s) (e : Sim s s') : St s₀ L m news s' :=
  ⟨by rw [e.heap]; exact S.fr, by rw [e.heap]; exact S.nw, S.nd, e.gens.trans S.gens, e.os.trans S.os⟩
theorem St.tok (S : St s₀ L m news s) {d : Drawn} {k : Nat} : St s₀ L m news ⟨s.heap, s.gens, d, k, s.os⟩ := ⟨S.fr, S.nw, S.nd, S.gens, S.os⟩
theorem Ns_keeps {h h' : Heap} (hn : h.Ns L m) (k : ∀ b o, h.get? b = some o → h'.get? b = some o) : h'.Ns L m :=
  let ⟨o, es, ep, ho, r⟩ := hn; ⟨o, es, ep, k _ _ ho, r⟩
/-- a call, a comprehension: whatever only adds -/
theorem St.step (S : St s₀ L m news s) (e : Ext s s') : St s₀ L m news s' :=
  ⟨⟨Ns_keeps S.fr.ns e.keep, fun b o x => e.keep b o (S.fr.keep b o x), S.fr.above⟩, fun p hp => ⟨e.keep _ _ (S.nw p hp).1, (S.nw p hp).2⟩, S.nd, e.gens.trans S.gens, e.os.trans S.os⟩
theorem St.lt (S : St s₀ L m news s) : L < s.heap.objs.size := S.fr.ns.lt
theorem St.more (S : St s₀ L m news s) (e : Ext s s') (hn : s.heap.get? a = none) (ho : s'.heap.get? a = some o) : St s₀ L m ((a, o) :: news) s' := by
  have S' := S.step e
  refine ⟨S'.fr, fun p hp => ?_, ?_, S'.gens, S'.os⟩
  · rcases List.mem_cons.mp hp with rfl | hp
    · refine ⟨ho, ?_, ?_⟩
      · intro q
        obtain ⟨oL, _, _, hL, _⟩ := S.fr.ns
        rw [← q] at hL
        have hn' : s.heap.get? a = none := hn
        rw [hn'] at hL; cases hL
      · cases q : s₀.heap.get? a with
        | none => rfl
        | some o' =>
          have := S.fr.keep _ _ q
          rw [hn] at this; cases this
    · exact S'.nw p hp
  · rw [List.map_cons, List.nodup_cons]
    refine ⟨fun hm => ?_, S.nd⟩
    obtain ⟨⟨b, ob⟩, hp, rfl⟩ := List.mem_map.mp hm
    have := (S.nw _ hp).1
    have hn' : s.heap.get? b = none := hn
    rw [hn'] at this; cases this
theorem St.at (S : St s₀ L m news s) (i : Nat) (h : news[i]? = some (a, o)) : s.heap.get? a = some o := (S.nw _ (List.mem_of_getElem? h)).1
theorem St.mem (S : St s₀ L m news s) (h : (a, o) ∈ news) : s.heap.get? a = some o := (S.nw _ h).1
theorem St.base (S : St s₀ L m news s) (h : s₀.heap.get? a = some o) : s.heap.get? a = some o := S.fr.keep _ _ h
theorem St.fresh (S : St s₀ L m news s) (h : (a, o) ∈ news) : s₀.heap.get? a = none := (S.nw _ h).2.2
/-- a local is stored -/
theorem St.put {h' : Heap} {k : Nat} {d : Drawn} (S : St s₀ L m news s) (hn : h'.Ns L m') (hs : Heap.SameBut L s.heap h') : St s₀ L m' news ⟨h', s.gens, d, k, s.os⟩ :=
  ⟨S.fr.set hn hs, S.nw.set hs, S.nd, S.gens, S.os⟩
/-- an object of the ledger is changed -/
theorem St.upd {h' : Heap} {k : Nat} {d : Drawn} {o' : Obj} (S : St s₀ L m news s) (i : Nat) (hi : news[i]? = some (a, o)) (hs : Heap.SameBut a s.heap h') (ho : h'.get? a = some o') :
    St s₀ L m (news.set i (a, o')) ⟨h', s.gens, d, k, s.os⟩ := by
  have hm := List.mem_of_getElem? hi
  obtain ⟨h1, h2, h3⟩ := S.nw _ hm
  obtain ⟨hl, he⟩ := List.getElem?_eq_some_iff.mp hi
  refine ⟨⟨S.fr.ns.sameBut hs (Ne.symm h2), fun b ob e => (hs.2 b (fun q => by rw [q] at e; rw [h3] at e; cases e)).trans (S.fr.keep b ob e), S.fr.above⟩, fun p hp => ?_, ?_, S.gens, S.os⟩
  · rcases List.mem_or_eq_of_mem_set hp with hp' | rfl
    · by_cases q : p.1 = a
      · -- the same address: only the place i bears it
        obtain ⟨j, hj⟩ := List.getElem?_of_mem hp
        rw [List.getElem?_set] at hj
        by_cases hij : i = j
        · subst hij
          rw [if_pos rfl, if_pos hl] at hj
          cases hj
          exact ⟨ho, h2, h3⟩
        · rw [if_neg hij] at hj
          exfalso
          obtain ⟨hjl, hje⟩ := List.getElem?_eq_some_iff.mp hj
          have nd := S.nd
          have nd' := List.pairwise_iff_getElem.mp nd
          have ei : (news.map (·.1))[i]'(by simpa using hl) = a := by simp only [List.getElem_map]; rw [he]
          have ej : (news.map (·.1))[j]'(by simpa using hjl) = a := by simp only [List.getElem_map]; rw [hje]; exact q
          rcases Nat.lt_or_gt_of_ne hij with lt | lt
          · exact nd' i j (by simpa using hl) (by simpa using hjl) lt (ei.trans ej.symm)
          · exact nd' j i (by simpa using hjl) (by simpa using hl) lt (ej.trans ei.symm)
      · have z := S.nw p hp'
        exact ⟨(hs.2 p.1 q).trans z.1, z.2⟩
    · exact ⟨ho, h2, h3⟩
  · rw [List.map_set]
    have : (news.map (·.1)).set i a = news.map (·.1) := by
      apply List.ext_getElem?
      intro j
      rw [List.getElem?_set]
      by_cases hij : i = j
      · subst hij
        simp [hl, he]
      · rw [if_neg hij]
    rw [this]; exact S.nd
end

/-- room for n calls more -/
structure Room (A : Around) (n : Nat) : Prop where
  handled : A.handled = none
  depth : A.depth + n < 990
  units : A.units + 8 * n < 9000
theorem Room.deeper {A : Around} {n : Nat} {env : Env} (R : Room A (n + 1)) : Room (A.deeper env) n :=
  ⟨R.handled, by have := R.depth; show A.depth + 1 + n < 990; omega, by have := R.units; show A.units + 3 + 8 * n < 9000; omega⟩
theorem Room.less {A : Around} {n k : Nat} (R : Room A n) (h : k ≤ n) : Room A k := ⟨R.handled, by have := R.depth; omega, by have := R.units; omega⟩
theorem Room.d {A : Around} {n : Nat} (R : Room A n) : A.depth < recursionLimit := by have := R.depth; show A.depth < 1000; omega

structure FnAt (h : Heap) (d : DefRec) (a : Addr) : Prop where
  ex : ∃ o pm cd doc, h.get? a = some o ∧ o.data = .func (docDef d.name d.params d.body d.scope pm cd doc) ∧ h.CodeRec cd d.name
theorem FnAt.keeps {h h' : Heap} {d : DefRec} {a : Addr} (F : FnAt h d a) (k : ∀ b o, h.get? b = some o → h'.get? b = some o) : FnAt h' d a :=
  let ⟨o, pm, cd, doc, h1, h2, h3⟩ := F.ex; ⟨o, pm, cd, doc, k _ _ h1, h2, h3.keeps k⟩

abbrev flowVal (f : Flow) : Value := match f with | .ret v => v | _ => .none

section
variable {prog : Program} {w : World} {A : Around} {E : Value → Shared → Prop} {s : Shared} {Q : Value → Shared → Prop}
theorem enter {d : DefRec} {a : Addr} {args : List Value} {binds : List (Str × Value)} {n : Nat} (R : Room A n) (F : FnAt s.heap d a) (hl : s.heap.NoLimit)
    (hbind : ∀ pm cd doc, bindArgs (docDef d.name d.params d.body d.scope pm cd doc) ⟨args, []⟩ = pure binds)
    (hkind : (binds.all fun y => d.scope.names.lookup y.1 == some .local || d.scope.names.lookup y.1 == some .cell) = true)
    (hnd : ((cellsFrom 0 d.scope.names []).map (·.1)).Nodup)
    (h : ∀ cd s₁ cells, St s s.heap.objs.size (bindL (envOfC d.name d.scope s.heap.objs.size a cd).kindOf binds fun _ => none) cells s₁ →
      CellsAre (bindC (envOfC d.name d.scope s.heap.objs.size a cd).kindOf binds fun _ => none) (cellsFrom (s.heap.objs.size + 1) d.scope.names []) cells →
      wpAny (model prog w) (A.deeper (envOfC d.name d.scope s.heap.objs.size a cd)) (execs d.body (envOfC d.name d.scope s.heap.objs.size a cd)) (fun f s' => Q (flowVal f) s') (fun _ _ => False) s₁)
    (hap : ∀ n, ((cellsFrom n d.scope.names []).map (·.2)).Nodup)
    (hco : d.scope.isCoroutine = false := by rfl) (hgen : d.scope.isGenerator = false := by rfl) (hk : d.scope.kind = .function := by rfl) :
    wpAny (model prog w) A (call (.ref a) args) Q E s := by
  obtain ⟨o, pm, cd, doc, h1, h2, h3⟩ := F.ex
  refine wpAny_call (call_cellsN_ret R.d h1 h2 hl h3 (hbind pm cd doc) (kindsX hkind _) hnd (fun h₁ tk cells F₁ N₁ X => ?_) hco hgen hk)
  refine h cd _ cells ⟨F₁, N₁, ?_, rfl, rfl⟩ X
  have : cells.map (·.1) = (cellsFrom (s.heap.objs.size + 1) d.scope.names []).map (·.2) := by
    clear h
    generalize (cellsFrom (s.heap.objs.size + 1) d.scope.names []) = cs at X
    induction X with
    | nil => rfl
    | cons _ _ ih => simp only [List.map_cons]; rw [ih (fun p hp => N₁ p (.tail _ hp))]
  rw [this]
  exact hap _
end
end partMine1
section partMine2
set_option autoImplicit false
abbrev P0 : Program := PySem.Challenge.pw_sl0020_01
def D (i : Nat) : DefRec := match P0.main.body[i]? with
  | some (.FunctionDef n a b _ _ _ sc _ _ p) => ⟨n, a, b, sc, p⟩
  | _ => ⟨default, ⟨[], [], none, [], [], none, []⟩, [], ⟨.module, [], false, false, []⟩, default⟩
/-- the written table b3, of the text itself -/
def b3L : List (PyData × PyData) := match P0.main.body[3]? with
  | some (Stmt.Assign _ (Expr.Dict ks vs _) _) => (ks.zip vs).filterMap fun (x : Option Expr × Expr) => match x with
    | (some (Expr.Constant (Const.int k) _ _), Expr.Constant (Const.str v) _ _) => some (PyData.int k, PyData.str v)
    | _ => none
  | _ => []
def b1L : List Int := [173, 847, 6150, 6155, 6156, 6157, 8203, 8204, 8205, 8288, 65279] ++ (List.range 16).map fun (i : Nat) => 65024 + (i : Int)

/-- what the text's own top left, as the call finds it -/
structure Gl (w : World) (mg mb : Str → Option Value) (h : Heap) : Prop where
  g : h.Ns mainGlobals mg
  b : h.Ns builtinsNs mb
  nolimit : h.NoLimit
  blt : ∀ x : Str, x ≠ "__name__" → mb x = bootBuiltins x
  free : ∀ x ∈ (["ord", "chr", "len", "sum", "range", "list"] : List Str), mg x = none
  fn : ∀ i ∈ [2, 4, 7, 11, 12, 13, 15, 16, 17, 18, 19, 20, 21, 22, 23, 24], ∃ a, mg (D i).name = some (.ref a) ∧ FnAt h (D i) a
  off : ∃ t, mg "NT_OFFSET" = some (.int 256 t)
  endm : ∃ t, mg "ENDMARKER" = some (.int 0 t)
  dots : ∃ t, mg "ELLIPSIS_MARKER" = some (.str "..." t)
  b1 : ∃ a, mg "b1_set" = some (.ref a) ∧ h.SetOf (intKind P0 w) a (fun k => decide (k ∈ b1L)) 27
  b3 : ∃ d, mg "b3_exceptions" = some (.ref d) ∧ IntTab P0 w h d b3L
theorem setOf_keeps {w : World} {h h' : Heap} {a : Addr} {f : Int → Bool} {n : Nat} (x : h.SetOf (intKind P0 w) a f n) (k : ∀ b o, h.get? b = some o → h'.get? b = some o) : h'.SetOf (intKind P0 w) a f n :=
  let ⟨o, es, ep, t, h1, r⟩ := x; ⟨o, es, ep, t, k _ _ h1, r⟩
theorem Gl.keeps {w : World} {mg mb : Str → Option Value} {h h' : Heap} (G : Gl w mg mb h) (k : ∀ b o, h.get? b = some o → h'.get? b = some o) : Gl w mg mb h' :=
  ⟨G.g.keeps k, G.b.keeps k, G.nolimit.keeps k, G.blt, G.free, fun i hi => let ⟨a, h1, h2⟩ := G.fn i hi; ⟨a, h1, h2.keeps k⟩, G.off, G.endm, G.dots,
    let ⟨a, h1, h2⟩ := G.b1; ⟨a, h1, setOf_keeps h2 k⟩, let ⟨d, h1, h2⟩ := G.b3; ⟨d, h1, h2.keep k⟩⟩

theorem star_of {e : Expr} {rest : List Expr} {env : Env} (h : ∀ x p, e ≠ .Starred x p) : starEach (e :: rest) env = (false, eval e env) :: starEach rest env := by
  cases e <;> first | rfl | exact absurd rfl (h _ _)
section
variable {w : World} {A : Around} {E : Value → Shared → Prop} {s₀ s : Shared} {L : Addr} {m : Str → Option Value} {news : Nw} {env : Env} {mg mb : Str → Option Value}
theorem r_local {x : Str} {pos : Pos} {v : Value} {Q : Value → Shared → Prop} (S : St s₀ L m news s) (hv : m x = some v) (h : Q v s)
    (hk : env.scope.kind = .function) (hl : env.kindOf x = some .local) (hL : env.locals = L) (hd : (x == ("__debug__" : Str)) = false) :
    wpAny (model P0 w) A (eval (.Name x pos) env) Q E s := wpAny_Name (wpAny_loadName_local hk hl (hL ▸ S.fr.ns) hv h) hd
theorem r_cell {x : Str} {pos : Pos} {v : Value} {c : Addr} {Q : Value → Shared → Prop} (hc : env.cells.lookup x = some c) (hi : s.heap.IsCell c (some v)) (h : Q v s)
    (hk : env.scope.kind = .function) (hl : env.kindOf x = some .cell) (hd : (x == ("__debug__" : Str)) = false) :
    wpAny (model P0 w) A (eval (.Name x pos) env) Q E s := wpAny_Name (wpAny_loadName_cell hk hl hc hi h) hd
theorem r_global {x : Str} {pos : Pos} {v : Value} {Q : Value → Shared → Prop} (S : St s₀ L m news s) (G : Gl w mg mb s₀.heap) (hv : mg x = some v) (h : Q v s)
    (hk : env.scope.kind = .function) (hl : env.kindOf x = some .globalImplicit) (hg : env.globals = mainGlobals) (hd : (x == ("__debug__" : Str)) = false) :
    wpAny (model P0 w) A (eval (.Name x pos) env) Q E s := Name_function_global hk hl (loadGlobal_global (hg ▸ G.g.keeps S.fr.keep) hv h) hd
theorem r_builtin {x : Str} {pos : Pos} {v : Value} {Q : Value → Shared → Prop} (S : St s₀ L m news s) (G : Gl w mg mb s₀.heap) (hx : x ∈ (["ord", "chr", "len", "sum", "range", "list"] : List Str)) (hn : x ≠ "__name__") (hv : bootBuiltins x = some v) (h : Q v s)
    (hk : env.scope.kind = .function) (hl : env.kindOf x = some .globalImplicit) (hg : env.globals = mainGlobals) (hb : env.builtins = builtinsNs) (hd : (x == ("__debug__" : Str)) = false) :
    wpAny (model P0 w) A (eval (.Name x pos) env) Q E s :=
  Name_function_global hk hl (loadGlobal_builtin (hg ▸ G.g.keeps S.fr.keep) (G.free x hx) (hb ▸ G.b.keeps S.fr.keep) ((G.blt x hn).trans hv) h) hd
theorem r_int {i : Int} {k : Nat} {pos : Pos} {Q : Value → Shared → Prop} (S : St s₀ L m news s) (h : ∀ t s', St s₀ L m news s' → Q (.int i t) s') : wpAny (model P0 w) A (eval (.Constant (.int i) k pos) env) Q E s := wpAny_Constant_int (h _ _ S.tok)
theorem r_str {x : Str} {k : Nat} {pos : Pos} {Q : Value → Shared → Prop} (S : St s₀ L m news s) (h : ∀ t s', St s₀ L m news s' → Q (.str x t) s') : wpAny (model P0 w) A (eval (.Constant (.str x) k pos) env) Q E s := wpAny_Constant_str (h _ _ S.tok)
theorem r_add {a b : Int} {t u : Tok} {Q : Value → Shared → Prop} (S : St s₀ L m news s) (h : ∀ t s', St s₀ L m news s' → Q (.int (a + b) t) s') : wpAny (model P0 w) A (binaryOp .Add (.int a t) (.int b u)) Q E s := add_int (h _ _ S.tok)
theorem r_ord {c : Nat} {t : Tok} {Q : Value → Shared → Prop} (S : St s₀ L m news s) (h : ∀ t s', St s₀ L m news s' → Q (.int c t) s') : wpAny (model P0 w) A (call (.builtin "ord") [.str ⟨#[c]⟩ t]) Q E s := P.ord_of_char (h _ _ S.tok)
theorem r_lower {x : Str} {t : Tok} {Q : Value → Shared → Prop} (S : St s₀ L m news s) (hl : Builtin.Str.tooLong (Txt.lower x).length = false) (h : ∀ t s', St s₀ L m news s' → Q (.str (Txt.lower x) t) s') : wpAny (model P0 w) A (call (.builtin "str.lower") [.str x t]) Q E s := SC.lower hl (h _ _ S.tok)
/-- a local is stored -/
theorem r_store {x : Str} {v : Value} {Q : Unit → Shared → Prop} (S : St s₀ L m news s) (h : ∀ s', St s₀ L (fun y => if y = x then some v else m y) news s' → Q () s')
    (hk : env.scope.kind = .function) (hl : env.kindOf x = some .local) (hL : env.locals = L) :
    wpAny (model P0 w) A (storeName env x v) Q E s :=
  wpAny_storeName_local hl (hL ▸ S.fr.ns) (fun h' hn hs => h _ (S.put (hL ▸ hn) (hL ▸ hs))) (by rw [hk]; rfl)
end

-- the look at a name: the kernel's own
local macro_rules | `(tactic| walk_at "nm") => `(tactic| kernel_rfl)
local macro_rules | `(tactic| walk_at "ld") => `(tactic| refine r_local (by assumption) (by rfl) ?_ (by kernel_rfl) (by kernel_rfl) (by kernel_rfl) (by kernel_rfl))
local macro_rules | `(tactic| walk_at "bl") => `(tactic| refine r_builtin (by assumption) (by assumption) (by decide +kernel) (by decide +kernel) (by kernel_rfl) ?_ (by kernel_rfl) (by kernel_rfl) (by kernel_rfl) (by kernel_rfl) (by kernel_rfl))
theorem c_ISTERMINAL {w : World} {A : Around} {E : Value → Shared → Prop} {s : Shared} {mg mb : Str → Option Value} {a : Addr} {x : Int} {t : Tok} {Q : Value → Shared → Prop} (R : Room A 0) (G : Gl w mg mb s.heap) (F : FnAt s.heap (D 11) a)
    (h : ∀ s', Ext s s' → Q (.bool (decide (x < 256))) s') : wpAny (model P0 w) A (call (.ref a) [.int x t]) Q E s := by
  refine enter (binds := [("x", .int x t)]) R F G.nolimit (fun _ _ _ => rfl) (by kernel_rfl) (by decide +kernel) (fun cd s₁ cells S X => ?_) (by intro n; exact List.nodup_nil)
  refine wpAny_execs_cons ?_
  refine wpAny_Return_some ?_
  refine wpAny_Compare1 ?_
  walk_at "ld"
  obtain ⟨u, hu⟩ := G.off
  refine r_global S G hu ?_ (by walk_at "nm") (by walk_at "nm") (by walk_at "nm") (by walk_at "nm")
  refine PyProof.Rows.lt_int ?_
  exact h _ S.ext

theorem c_ISNONTERMINAL {w : World} {A : Around} {E : Value → Shared → Prop} {s : Shared} {mg mb : Str → Option Value} {a : Addr} {x : Int} {t : Tok} {Q : Value → Shared → Prop} (R : Room A 0) (G : Gl w mg mb s.heap) (F : FnAt s.heap (D 12) a)
    (h : ∀ s', Ext s s' → Q (.bool (decide (256 ≤ x))) s') : wpAny (model P0 w) A (call (.ref a) [.int x t]) Q E s := by
  refine enter (binds := [("x", .int x t)]) R F G.nolimit (fun _ _ _ => rfl) (by kernel_rfl) (by decide +kernel) (fun cd s₁ cells S X => ?_) (by intro n; exact List.nodup_nil)
  refine wpAny_execs_cons (wpAny_Return_some (wpAny_Compare1 ?_))
  walk_at "ld"
  obtain ⟨u, hu⟩ := G.off
  refine r_global S G hu ?_ (by walk_at "nm") (by walk_at "nm") (by walk_at "nm") (by walk_at "nm")
  refine PyProof.Rows.ge_int ?_
  exact h _ S.ext
theorem c_ISEOF {w : World} {A : Around} {E : Value → Shared → Prop} {s : Shared} {mg mb : Str → Option Value} {a : Addr} {x : Int} {t : Tok} {Q : Value → Shared → Prop} (R : Room A 0) (G : Gl w mg mb s.heap) (F : FnAt s.heap (D 13) a)
    (h : ∀ s', Ext s s' → Q (.bool (x == 0)) s') : wpAny (model P0 w) A (call (.ref a) [.int x t]) Q E s := by
  refine enter (binds := [("x", .int x t)]) R F G.nolimit (fun _ _ _ => rfl) (by kernel_rfl) (by decide +kernel) (fun cd s₁ cells S X => ?_) (by intro n; exact List.nodup_nil)
  refine wpAny_execs_cons (wpAny_Return_some (wpAny_Compare1 ?_))
  walk_at "ld"
  obtain ⟨u, hu⟩ := G.endm
  refine r_global S G hu ?_ (by walk_at "nm") (by walk_at "nm") (by walk_at "nm") (by walk_at "nm")
  refine eq_int ?_
  exact h _ S.ext

theorem c_in_table_b1 {w : World} {A : Around} {E : Value → Shared → Prop} {s : Shared} {mg mb : Str → Option Value} {a : Addr} {c : Nat} {t : Tok} {Q : Value → Shared → Prop} (R : Room A 0) (G : Gl w mg mb s.heap) (F : FnAt s.heap (D 2) a)
    (h : ∀ s', Ext s s' → Q (.bool (decide ((c : Int) ∈ b1L))) s') : wpAny (model P0 w) A (call (.ref a) [.str ⟨#[c]⟩ t]) Q E s := by
  refine enter (binds := [("code", .str ⟨#[c]⟩ t)]) R F G.nolimit (fun _ _ _ => rfl) (by kernel_rfl) (by decide +kernel) (fun cd s₁ cells S X => ?_) (by intro n; exact List.nodup_nil)
  refine wpAny_execs_cons (wpAny_Return_some (wpAny_Compare1 ?_))
  refine Call_ ?_
  refine r_builtin (v := .builtin "ord") S G (by decide +kernel) (by decide +kernel) (by walk_at "nm") ?_ (by walk_at "nm") (by walk_at "nm") (by walk_at "nm") (by walk_at "nm") (by walk_at "nm")
  refine PyProof.Rows.callWith_builtin1 ?_
  refine spliced_more ?_ (star_of nofun)
  walk_at "ld"
  refine spliced_none ?_
  refine r_ord S fun t₂ s₂ S => ?_
  obtain ⟨b, hb, hs⟩ := G.b1
  refine r_global S G hb ?_ (by walk_at "nm") (by walk_at "nm") (by walk_at "nm") (by walk_at "nm")
  refine wpAny_inSet_of (knd := intKind P0 w) (k := (c : Int)) (intKind_is _ _ _ _) rfl (setOf_keeps hs S.fr.keep) ?_
  exact h _ S.tok.ext

/-- what map_table_b3 makes of one sign -/
def b3of (c : Nat) : Str := match Spec.lookup (.int c) b3L with
  | some (.str x) => x
  | _ => Txt.lower ⟨#[c]⟩
theorem flat_str {v : Value} {x : Str} (h : PyProof.V.Flat v (.str x)) : ∃ t, v = .str x t := by
  obtain ⟨t, rfl, _⟩ := reads_str_inv (h {}); exact ⟨t, rfl⟩
theorem flat_none {v : Value} (h : PyProof.V.Flat v .none) : v = .none := by
  have := h {}
  cases this; rfl
theorem c_map_table_b3 {w : World} {A : Around} {E : Value → Shared → Prop} {s : Shared} {mg mb : Str → Option Value} {a : Addr} {c : Nat} {t : Tok} {Q : Value → Shared → Prop} (R : Room A 0) (G : Gl w mg mb s.heap) (F : FnAt s.heap (D 4) a)
    (hk : Spec.lookup (.int c) b3L = none ∨ ∃ x, Spec.lookup (.int c) b3L = some (.str x)) (hl : Builtin.Str.tooLong (Txt.lower ⟨#[c]⟩).length = false)
    (h : ∀ u s', Ext s s' → Q (.str (b3of c) u) s') : wpAny (model P0 w) A (call (.ref a) [.str ⟨#[c]⟩ t]) Q E s := by
  refine enter (binds := [("code", .str ⟨#[c]⟩ t)]) R F G.nolimit (fun _ _ _ => rfl) (by kernel_rfl) (by decide +kernel) (fun cd s₁ cells S X => ?_) (by intro n; exact List.nodup_nil)
  refine wpAny_execs_cons (wpAny_Assign_Name ?_)
  refine MethodCall_ ?_
  obtain ⟨b, hb, hT⟩ := G.b3
  refine r_global S G hb ?_ (by walk_at "nm") (by walk_at "nm") (by walk_at "nm") (by walk_at "nm")
  refine getMethod_intTab_get (hT.keep S.fr.keep) ?_
  refine callWith_method1 ?_
  refine spliced_more ?_ (star_of nofun)
  refine Call_ ?_
  refine r_builtin (v := .builtin "ord") S G (by decide +kernel) (by decide +kernel) (by walk_at "nm") ?_ (by walk_at "nm") (by walk_at "nm") (by walk_at "nm") (by walk_at "nm") (by walk_at "nm")
  refine PyProof.Rows.callWith_builtin1 ?_
  refine spliced_more ?_ (star_of nofun)
  walk_at "ld"
  refine spliced_none ?_
  refine r_ord S fun t₂ s₂ S => ?_
  refine spliced_none ?_
  refine call_get1_intTab (hT.keep S.fr.keep) fun v hv => ?_
  have S := S.tok (d := s₂.drawn) (k := s₂.toks + 1)
  refine r_store S (fun s₃ S => ?_) (by walk_at "nm") (by walk_at "nm") (by walk_at "nm")
  refine wpAny_execs_cons (wpAny_If (wpAny_isTrue_Compare1 ?_))
  walk_at "ld"
  refine wpAny_Constant_none ?_
  rcases hk with hk | ⟨x, hk⟩
  · rw [hk] at hv
    obtain rfl := flat_none hv
    refine isnot_none_none ?_
    refine wpAny_truthy_bool ?_
    rw [if_neg Bool.false_ne_true]
    refine wpAny_execs_nil ?_
    refine wpAny_execs_cons (wpAny_Return_some ?_)
    refine MethodCall_ ?_
    walk_at "ld"
    refine GM.lower ?_
    refine callWith_method0 ?_
    refine r_lower S hl fun u s₄ S => ?_
    have := h u _ S.ext
    unfold b3of at this
    rw [hk] at this
    exact this
  · rw [hk] at hv
    obtain ⟨u, rfl⟩ := flat_str hv
    refine isnot_str_none ?_
    refine wpAny_truthy_bool ?_
    rw [if_pos rfl]
    refine wpAny_execs_cons (wpAny_Return_some ?_)
    walk_at "ld"
    have := h u _ S.ext
    unfold b3of at this
    rw [hk] at this
    exact this
end partMine2
section partHead1
set_option autoImplicit false
/-- a tree runs to a in n steps of the top, in any surroundings -/
def Lead (w : World) (n₀ : Nat) (ann : Option Value) {α : Type} (n : Nat) (x : Sem α) (s : Shared) (p : Pos) (a : α) (s' : Shared) (p' : Pos) : Prop :=
  ∀ (K : α → Sem Fin) (H : Value → Sem Fin) (gd : Bool → Bool) (lv : List Value → List Value) (c : Code) (B : List Frame) (N : Nat) (r : Shared), B.isEmpty = false →
    topRun table P0 w n₀ ann N s' ⟨K a, c, p', B⟩ = some r → topRun table P0 w n₀ ann (n + N) s ⟨x.wrap K H gd lv, c, p, B⟩ = some r
section
variable {w : World} {n₀ : Nat} {ann : Option Value} {α β : Type} {n m : Nat} {s s' s₁ : Shared} {p p' p₁ : Pos} {a : α} {b : β} {x : Sem α}
theorem top_step {N : Nat} {r : Shared} {t t' : Thread} (h1 : through t = false) (h2 : stepOk n₀ ann t = true) (h3 : step (denote table) P0 w s t = .go s' t') (h : topRun table P0 w n₀ ann N s' t' = some r) : topRun table P0 w n₀ ann (N + 1) s t = some r := by
  unfold topRun
  rw [h1, h2, h3]
  exact h
theorem not_through {cur : Sem Fin} {c : Code} {p : Pos} {B : List Frame} (h : B.isEmpty = false) : through ⟨cur, c, p, B⟩ = false := by
  unfold through
  rw [h]; rfl
theorem lead_mono (h : Lead w n₀ ann n x s p a s' p') (le : n ≤ m) : Lead w n₀ ann m x s p a s' p' := fun K H gd lv c B N r hB hr => by
  have := topRun_mono (m - n) _ _ _ _ (h K H gd lv c B N r hB hr)
  rwa [show n + N + (m - n) = m + N by omega] at this
theorem lead_pure (a : α) : Lead w n₀ ann n (.pure a : Sem α) s p a s p := fun K H gd lv c B N r hB hr => by
  rw [Nat.add_comm]; exact topRun_mono _ _ _ _ _ hr
theorem lead_pure' (a : α) : Lead w n₀ ann n (Pure.pure a : Sem α) s p a s p := lead_pure a
theorem lead_wrap {f : α → Sem β} {H₀ : Value → Sem β} {gd₀ : Bool → Bool} {lv₀ : List Value → List Value} (h : Lead w n₀ ann n x s p a s₁ p₁) (g : Lead w n₀ ann m (f a) s₁ p₁ b s' p') : Lead w n₀ ann (m + n) (x.wrap f H₀ gd₀ lv₀) s p b s' p' := fun K H gd lv c B N r hB hr => by
  rw [Sem.wrap_wrap, Nat.add_comm m n, Nat.add_assoc]
  exact h _ _ _ _ _ _ _ _ hB (g _ _ _ _ _ _ _ _ hB hr)
theorem lead_wrap0 {H₀ : Value → Sem α} {gd₀ : Bool → Bool} {lv₀ : List Value → List Value} (h : Lead w n₀ ann n x s p a s' p') : Lead w n₀ ann n (x.wrap .pure H₀ gd₀ lv₀) s p a s' p' := by
  have := lead_wrap (m := 0) (f := Sem.pure) (H₀ := H₀) (gd₀ := gd₀) (lv₀ := lv₀) h (lead_pure a)
  rwa [Nat.zero_add] at this
theorem lead_bind {f : α → Sem β} (h : Lead w n₀ ann n x s p a s₁ p₁) (g : Lead w n₀ ann m (f a) s₁ p₁ b s' p') : Lead w n₀ ann (m + n) (x >>= f) s p b s' p' := by
  rw [Sem.bind_eq_wrap']; exact lead_wrap h g
theorem lead_keep {vs : List Value} (h : Lead w n₀ ann n x s p a s' p') : Lead w n₀ ann n (x.keep vs) s p a s' p' := by
  rw [Sem.keep_eq_wrap]; exact lead_wrap0 h
theorem lead_holding {vs : List Value} (h : Lead w n₀ ann n x s p a s' p') : Lead w n₀ ann n (holding vs x) s p a s' p' := by
  unfold PySem.holding
  split
  · exact h
  · exact lead_keep h
theorem lead_onRaise {f : Value → Sem Unit} (h : Lead w n₀ ann n x s p a s' p') : Lead w n₀ ann n (x.onRaise f) s p a s' p' := by
  rw [Sem.onRaise_eq_wrap]; exact lead_wrap0 h
theorem lead_tryCatch {f : Value → Sem α} (h : Lead w n₀ ann n x s p a s' p') : Lead w n₀ ann n (x.tryCatch f) s p a s' p' := by
  rw [Sem.tryCatch_eq_wrap]; exact lead_wrap0 h
theorem lead_eq {y : Sem α} (e : x = y) (h : Lead w n₀ ann n y s p a s' p') : Lead w n₀ ann n x s p a s' p' := by rw [e]; exact h
theorem lead_fresh {k : Tok → Sem α} (h : Lead w n₀ ann n (k s.toks) { s with toks := s.toks + 1 } p a s' p') : Lead w n₀ ann (n + 1) (.fresh k) s p a s' p' := fun K H gd lv c B N r hB hr => by
  rw [show n + 1 + N = n + N + 1 by omega]
  obtain ⟨hp, gs, dr, tk, os⟩ := s
  exact top_step (not_through hB) rfl rfl (h K H gd lv c B N r hB hr)
theorem lead_rule {tag : String} {k : Unit → Sem α} (h : Lead w n₀ ann n (k ()) s p a s' p') : Lead w n₀ ann (n + 1) (.rule tag k) s p a s' p' := fun K H gd lv c B N r hB hr => by
  rw [show n + 1 + N = n + N + 1 by omega]
  obtain ⟨hp, gs, dr, tk, os⟩ := s
  exact top_step (not_through hB) rfl rfl (h K H gd lv c B N r hB hr)
theorem lead_at {q : Pos} {k : Unit → Sem α} (h : Lead w n₀ ann n (k ()) s q a s' p') : Lead w n₀ ann (n + 1) (.at q k) s p a s' p' := fun K H gd lv c B N r hB hr => by
  rw [show n + 1 + N = n + N + 1 by omega]
  obtain ⟨hp, gs, dr, tk, os⟩ := s
  exact top_step (not_through hB) rfl rfl (h K H gd lv c B N r hB hr)
theorem lead_point {l : List Value} {k : Unit → Sem α} (h : Lead w n₀ ann n (k ()) s p a s' p') : Lead w n₀ ann (n + 1) (.point l k) s p a s' p' := fun K H gd lv c B N r hB hr => by
  rw [show n + 1 + N = n + N + 1 by omega]
  obtain ⟨hp, gs, dr, tk, os⟩ := s
  exact top_step (not_through hB) rfl rfl (h K H gd lv c B N r hB hr)
theorem lead_ask {k : Setting → Sem α} (h : Lead w n₀ ann n (k ⟨P0, w.params⟩) s p a s' p') : Lead w n₀ ann (n + 1) (.ask k) s p a s' p' := fun K H gd lv c B N r hB hr => by
  rw [show n + 1 + N = n + N + 1 by omega]
  obtain ⟨hp, gs, dr, tk, os⟩ := s
  exact top_step (not_through hB) rfl rfl (h K H gd lv c B N r hB hr)
theorem lead_alloc {o : Obj} {k : Addr → Sem α} (h : Lead w n₀ ann n (k s.heap.objs.size) { s with heap := s.heap.push o } p a s' p') : Lead w n₀ ann (n + 1) (.alloc o k) s p a s' p' := fun K H gd lv c B N r hB hr => by
  rw [show n + 1 + N = n + N + 1 by omega]
  obtain ⟨hp, gs, dr, tk, os⟩ := s
  exact top_step (not_through hB) rfl rfl (h K H gd lv c B N r hB hr)
theorem lead_load {d : Addr} {pt : Option Value} {o : Obj} {k : Obj → Sem α} (ho : s.heap.get? d = some o) (h : Lead w n₀ ann n (k o) s p a s' p') : Lead w n₀ ann (n + 1) (.load d pt k) s p a s' p' := fun K H gd lv c B N r hB hr => by
  rw [show n + 1 + N = n + N + 1 by omega]
  obtain ⟨hp, gs, dr, tk, os⟩ := s
  refine top_step (not_through hB) rfl ?_ (h K H gd lv c B N r hB hr)
  show (match hp.get? d with | some o => _ | none => _) = _
  rw [show hp.get? d = some o from ho]
theorem lead_update {d : Addr} {pt : Option Value} {f : Obj → Obj} {o : Obj} {k : Unit → Sem α} (ho : s.heap.get? d = some o) (hd : (Nat.ble n₀ d || d == mainNs) = true) (h : Lead w n₀ ann n (k ()) { s with heap := s.heap.update d f } p a s' p') : Lead w n₀ ann (n + 1) (.update d pt f k) s p a s' p' := fun K H gd lv c B N r hB hr => by
  rw [show n + 1 + N = n + N + 1 by omega]
  obtain ⟨hp, gs, dr, tk, os⟩ := s
  refine top_step (not_through hB) ?_ ?_ (h K H gd lv c B N r hB hr)
  · show (true && (Nat.ble n₀ d || d == mainNs || d == cStatics || ann == some (.ref d))) = true
    rw [hd]; rfl
  · show (if (hp.get? d).isSome then _ else _) = _
    rw [show hp.get? d = some o from ho]
    rfl
/-- a built-in that only draws a token -/
theorem lead_call {f : Value} {c₂ : Code} {as : Args} {hd : Option Value} {g : Bool} {l : List Value} {k : Result → Sem α} {v : Tok → Value}
    (h1 : denote table (.call f as) = .pure (.again c₂)) (hc : ∀ a b c, stepOk n₀ ann ⟨.pure (.again c₂), a, b, c⟩ = true) (h2 : denote table c₂ = .fresh fun t => .pure (.done (.ret (v t))))
    (h : Lead w n₀ ann n (k (.ok (.ret (v s.toks)))) { s with toks := s.toks + 1 } p a s' p') : Lead w n₀ ann (n + 4) (.call (.call f as) hd g l k) s p a s' p' := fun K H gd lv c B N r hB hr => by
  rw [show n + 4 + N = n + N + 1 + 1 + 1 + 1 by omega]
  obtain ⟨hp, gs, dr, tk, os⟩ := s
  refine top_step (not_through hB) rfl rfl ?_
  rw [h1]
  refine top_step (not_through rfl) (hc _ _ _) (step_again) ?_
  rw [h2]
  refine top_step (not_through rfl) rfl rfl ?_
  refine top_step (not_through rfl) rfl rfl ?_
  exact h K H gd lv c B N r hB hr
/-- the dict that a display of ints and texts makes -/
abbrev dO (es : List DictEntry) : Obj := { cls := .type "dict", data := .dict es.toArray es.length }
theorem stepOk_hash (as : Args) (a : Code) (b : Pos) (c : List Frame) : stepOk n₀ ann ⟨.pure (.again (.builtin "int.__hash__" as)), a, b, c⟩ = true := by
  kernel_rfl
theorem den_call (id : String) (as : Args) : denote table (.call (.builtin id) as) = (do checkBuiltinCall id as; again (.builtin id as) : Sem Fin) := rfl
theorem den_builtin {id : String} {b : Builtin} (as : Args) (h : entryFor table id = some b) : denote table (.builtin id as) = b as := by
  show (match entryFor table id with | some b => b as | none => unsupported _) = _
  rw [h]
theorem check_hash (k : Int) (t : Tok) : checkBuiltinCall "int.__hash__" ⟨[.int k t], []⟩ = pure () := by kernel_rfl
theorem den_hash_call (k : Int) (t : Tok) : denote table (.call (.builtin "int.__hash__") ⟨[.int k t], []⟩) = .pure (.again (.builtin "int.__hash__" ⟨[.int k t], []⟩)) := by
  rw [den_call, check_hash]; rfl
theorem den_hash (k : Int) (t : Tok) : denote table (.builtin "int.__hash__" ⟨[.int k t], []⟩) = .fresh fun u => .pure (.done (.ret (.int (rawHash k) u))) := by
  rw [den_builtin _ entry_int_hash]; rfl
theorem lead_hash (k : Int) (t : Tok) : Lead w n₀ ann 5 (pyHash (.int k t)) s p (hashInt k) { s with toks := s.toks + 1 } p := by
  have hr := rawHash_range k
  have hv : [Value.int k t].any Value.onHeap = false := rfl
  have sp : specialOf (.int k t) "__hash__" = (pure (some (.builtin "int.__hash__")) : Sem (Option Value)) := by
    unfold specialOf
    rw [show typeOf (.int k t) = (pure (.type "int") : Sem Value) from rfl]
    exact slot_int_hash.lookup
  have hb := slot_int_hash.bind (.int k t)
  show Lead w n₀ ann 5 (pyHashByItsType (.int k t)) s p _ _ p
  unfold pyHashByItsType
  rw [cRoomFor, if_neg (by rw [hv]; exact Bool.false_ne_true)]
  refine lead_bind (n := 0) (lead_pure' _) ?_
  refine lead_bind (n := 0) (lead_eq sp (lead_pure' _)) ?_
  show Lead w n₀ ann 5 (if (some (Value.builtin "int.__hash__") == some Value.none) = true then _ else _) s p _ _ p
  rw [if_neg (by rw [beq_builtin_none]; exact Bool.false_ne_true)]
  refine lead_bind (n := 0) (lead_eq sp (lead_pure' _)) ?_
  refine lead_bind (n := 5) (a := some (.int (rawHash k) s.toks)) (s₁ := { s with toks := s.toks + 1 }) (p₁ := p) ?_ ?_
  · unfold callSpecialIfBoundUnlessNone?
    refine lead_holding ?_
    refine lead_bind (n := 1) (a := some (.builtin "int.__hash__", [.int k t])) (s₁ := s) (p₁ := p) ?_ ?_
    · unfold bindSpecialIfBound?
      refine lead_bind (n := 0) (lead_eq sp (lead_pure' _)) ?_
      refine lead_bind (n := 1) (lead_ask (n := 0) (lead_pure _)) ?_
      have hB : (do return some (← bindSpecial (.builtin "int.__hash__") (.int k t)) : Sem (Option (Value × List Value))) = pure (some (.builtin "int.__hash__", [.int k t])) := by
        rw [hb]; rfl
      show Lead w n₀ ann 0 (if w.params.followText "special-get-raises" = true then (do return some (← bindSpecial (.builtin "int.__hash__") (.int k t))) else (do return some (← bindSpecial (.builtin "int.__hash__") (.int k t)) : Sem (Option (Value × List Value))).tryCatch _) s p _ _ p
      rw [hB]
      split
      · exact lead_pure' _
      · exact lead_tryCatch (lead_pure' _)
    · show Lead w n₀ ann 4 (if (Value.builtin "int.__hash__" == Value.none) = true then _ else _) s p _ _ p
      rw [if_neg (by decide)]
      refine lead_bind (n := 4) (a := .int (rawHash k) s.toks) ?_ (lead_pure' _)
      show Lead w n₀ ann 4 (runValue (.call (.builtin "int.__hash__") ⟨[.int k t], []⟩)) s p _ _ p
      unfold runValue
      refine lead_bind (n := 4) (a := .ret (.int (rawHash k) s.toks)) ?_ (lead_pure' _)
      unfold run
      exact lead_call (n := 0) (den_hash_call k t) (fun a b c => stepOk_hash _ a b c) (den_hash k t) (lead_pure _)
  · show Lead w n₀ ann 0 (if (decide (-(2 : Int) ^ 63 ≤ rawHash k) && decide (rawHash k < 2 ^ 63)) = true then _ else _) _ p _ _ p
    rw [if_pos (by rw [decide_eq_true hr.1, decide_eq_true hr.2]; rfl)]
    exact lead_pure' _
end
end partHead1
section partHead2
set_option autoImplicit false
theorem get_obj {h : Heap} {d : Addr} {o : Obj} (ho : h.get? d = some o) : h.objs[d]? = some o := ((Heap.get?_eq_some _ _ _).1 ho).1
theorem update_at {h : Heap} {d : Addr} {o : Obj} {f g : Obj → Obj} (ho : h.get? d = some o) (e : f o = g o) : h.update d f = h.update d g := by
  have ho := get_obj ho
  obtain ⟨objs, life⟩ := h
  simp only [Heap.update, Heap.mk.injEq, and_true]
  apply Array.ext_getElem?
  intro i
  simp only [Array.getElem?_modify]
  by_cases h1 : d = i
  · subst h1
    rw [if_pos rfl, if_pos rfl, show objs[d]? = some o from ho]
    simp only [Option.map_some, e]
  · rw [if_neg h1, if_neg h1]
theorem update_update (h : Heap) (d : Addr) (x y : Obj) : (h.update d fun _ => x).update d (fun _ => y) = h.update d fun _ => y := by
  obtain ⟨objs, life⟩ := h
  simp only [Heap.update, Heap.mk.injEq, and_true]
  apply Array.ext_getElem?
  intro i
  simp only [Array.getElem?_modify]
  by_cases h1 : d = i
  · subst h1
    cases objs[d]? <;> simp
  · simp [h1]
theorem push_update (h : Heap) (x y : Obj) : (h.push x).update h.objs.size (fun _ => y) = h.push y := by
  obtain ⟨objs, life⟩ := h
  simp only [Heap.update, Heap.push, Heap.mk.injEq, and_true]
  apply Array.ext_getElem?
  intro i
  simp only [Array.getElem?_modify, Array.getElem?_push]
  by_cases h1 : objs.size = i
  · subst h1; simp
  · simp [h1, Ne.symm h1]
theorem update_self {h : Heap} {d : Addr} {o : Obj} (ho : h.get? d = some o) : h.update d (fun _ => o) = h := by
  have ho := get_obj ho
  obtain ⟨objs, life⟩ := h
  simp only [Heap.update, Heap.mk.injEq, and_true]
  apply Array.ext_getElem?
  intro i
  simp only [Array.getElem?_modify]
  by_cases h1 : d = i
  · subst h1
    rw [if_pos rfl, show objs[d]? = some o from ho]; rfl
  · rw [if_neg h1]
theorem get_update_dO {h : Heap} {d : Addr} {o : Obj} (ho : h.get? d = some o) (es : List DictEntry) : (h.update d fun _ => dO es).get? d = some (dO es) := Heap.get?_update_self _ ho rfl
section
variable {w : World} {n₀ : Nat} {ann : Option Value} {α β : Type} {n m : Nat} {s s' s₁ : Shared} {p p' p₁ : Pos} {a : α} {b : β} {x : Sem α}
theorem lead_entries {d : Addr} {pt : Option Value} {es : List DictEntry} (ho : s.heap.get? d = some (dO es)) : Lead w n₀ ann 1 (dictEntries d pt) s p es.toArray s p := by
  unfold dictEntries
  exact lead_bind (m := 0) (lead_load (n := 0) ho (lead_pure _)) (lead_pure' _)
theorem lead_epoch {d : Addr} {pt : Option Value} {es : List DictEntry} (ho : s.heap.get? d = some (dO es)) : Lead w n₀ ann 1 (dictEpoch d pt) s p es.length s p := by
  unfold dictEpoch
  exact lead_bind (m := 0) (lead_load (n := 0) ho (lead_pure _)) (lead_pure' _)
theorem lead_find {d : Addr} {es : List DictEntry} {k : Int} {t : Tok} (ho : s.heap.get? d = some (dO es)) (hk : ∀ e ∈ es, e.hash ≠ hashInt k) : Lead w n₀ ann 1 (dictFind d (.int k t) (hashInt k)) s p none s p := by
  have hp : placesWithHash es.toArray.size (fun i => es.toArray[i]?.map (·.hash)) (hashInt k) = [] := by
    unfold placesWithHash
    rw [List.filter_eq_nil_iff]
    intro i hi hcon
    simp only [List.getElem?_toArray, beq_iff_eq, Option.map_eq_some_iff] at hcon
    obtain ⟨e, he, hh⟩ := hcon
    exact hk e (List.mem_of_getElem? he) hh
  unfold dictFind
  refine lead_holding ?_
  refine lead_bind (m := 0) (lead_entries ho) ?_
  show Lead w n₀ ann 0 (if ((Value.int k t :: (placesWithHash es.toArray.size (fun i => es.toArray[i]?.map (·.hash)) (hashInt k)).filterMap fun i => es.toArray[i]?.map (·.key)).all carriedByValue) = true then _ else _) s p none s p
  rw [hp]
  refine lead_eq (if_pos (by rfl)) ?_
  exact lead_pure' _
theorem lead_keys {d : Addr} {pt : Option Value} {es : List DictEntry} {e : DictEntry} (ho : s.heap.get? d = some (dO es)) (hn : n₀ ≤ d) (hz : es.length ≤ 10000) :
    Lead w n₀ ann 3 (updateDictKeys d (·.push e) pt) s p () { s with heap := s.heap.update d fun _ => dO (es ++ [e]) } p := by
  have he : s.heap.update d (Obj.mapDictKeys (·.push e)) = s.heap.update d fun _ => dO (es ++ [e]) := by
    refine update_at ho ?_
    show Obj.mk _ _ _ _ = _
    simp
  unfold updateDictKeys
  refine lead_bind (m := 2) (lead_load (n := 0) ho (lead_pure _)) ?_
  show Lead w n₀ ann 2 (do updatePart d pt (Obj.mapDictKeys (·.push e)); lookBehind d pt) s p () _ p
  refine lead_bind (m := 1) (lead_update (n := 0) ho (by rw [Nat.ble_eq.mpr hn]; rfl) (lead_pure _)) ?_
  rw [he]
  unfold lookBehind
  refine lead_bind (m := 0) (lead_load (n := 0) (get_update_dO ho _) (lead_pure _)) ?_
  have : (dO (es ++ [e])).data.pastItsLine = none := pastItsLine_dict (by rw [sizeLine_eq]; simp; omega)
  refine lead_eq (y := pure ()) ?_ (lead_pure' _)
  dsimp only
  rw [this]
/-- one entry of a display -/
theorem lead_set {d : Addr} {es : List DictEntry} {k : Int} {t : Tok} {v : Value} (ho : s.heap.get? d = some (dO es)) (hn : n₀ ≤ d) (hz : es.length ≤ 10000) (hk : ∀ e ∈ es, e.hash ≠ hashInt k) :
    Lead w n₀ ann 10 (dictSet d (.int k t) v) s p () { s with heap := s.heap.update d fun _ => dO (es ++ [⟨hashInt k, .int k t, v⟩]), toks := s.toks + 1 } p := by
  unfold dictSet
  refine lead_holding ?_
  refine lead_bind (m := 5) (lead_hash k t) ?_
  unfold dictSetHashed
  refine lead_holding ?_
  refine lead_bind (m := 4) (lead_find (s := { s with toks := s.toks + 1 }) ho hk) ?_
  refine lead_bind (m := 3) (n := 1) (lead_rule (n := 0) (lead_pure _)) ?_
  exact lead_keys (s := { s with toks := s.toks + 1 }) ho hn hz
end
end partHead2
section partHead3
set_option autoImplicit false
/-- the entries that a display makes: st tokens an entry -/
def ents (st : Nat) : Nat → List (Int × Str) → List DictEntry
  | _, [] => []
  | t, (k, x) :: r => ⟨hashInt k, .int k t, .str x (t + 1)⟩ :: ents st (t + st) r
theorem ents_len (st : Nat) : ∀ (t : Nat) (ps : List (Int × Str)), (ents st t ps).length = ps.length
  | _, [] => rfl
  | t, (k, x) :: r => by unfold ents; rw [List.length_cons, List.length_cons, ents_len st]
theorem ents_hash (st : Nat) : ∀ (t : Nat) (ps : List (Int × Str)), (ents st t ps).map (·.hash) = ps.map fun y => hashInt y.1
  | _, [] => rfl
  | t, (k, x) :: r => by unfold ents; rw [List.map_cons, List.map_cons, ents_hash st]
theorem ents_app (st : Nat) : ∀ (t : Nat) (ps qs : List (Int × Str)), ents st t (ps ++ qs) = ents st t ps ++ ents st (t + st * ps.length) qs
  | t, [], qs => by simp [ents]
  | t, (k, x) :: r, qs => by
    have ih := ents_app st (t + st) r qs
    show (⟨hashInt k, .int k t, .str x (t + 1)⟩ : DictEntry) :: ents st (t + st) (r ++ qs) = ⟨hashInt k, .int k t, .str x (t + 1)⟩ :: (ents st (t + st) r ++ ents st (t + st * (r.length + 1)) qs)
    rw [ih, Nat.mul_succ, Nat.add_assoc t st, Nat.add_comm st]
def Ent (e : DictEntry) : Prop := ∃ k t v, e = ⟨hashInt k, .int k t, v⟩
theorem ents_ent (st : Nat) : ∀ (t : Nat) (ps : List (Int × Str)), ∀ e ∈ ents st t ps, Ent e
  | _, [], _, h => nomatch h
  | t, (k, x) :: r, e, h => by
    unfold ents at h
    rcases List.mem_cons.mp h with rfl | h
    · exact ⟨_, _, _, rfl⟩
    · exact ents_ent st _ r e h
def pushAll : Heap → List Obj → Heap
  | h, [] => h
  | h, o :: os => pushAll (h.push o) os
theorem pushAll_snoc : ∀ (os : List Obj) (h : Heap) (y : Obj), (pushAll h os).push y = pushAll h (os ++ [y])
  | [], _, _ => rfl
  | o :: os, h, y => pushAll_snoc os (h.push o) y
theorem pushAll_size : ∀ (os : List Obj) (h : Heap), (pushAll h os).objs.size = h.objs.size + os.length
  | [], _ => rfl
  | o :: os, h => by
    show (pushAll (h.push o) os).objs.size = _
    rw [pushAll_size os (h.push o), Heap.size_push, List.length_cons]; omega
theorem pushAll_get {d : Addr} {o : Obj} : ∀ (os : List Obj) (h : Heap), h.get? d = some o → (pushAll h os).get? d = some o
  | [], _, e => e
  | x :: os, h, e => pushAll_get os (h.push x) (Heap.get?_push_of_some x e)
theorem pushAll_update {d : Addr} {f : Obj → Obj} : ∀ (os : List Obj) (h : Heap), d < h.objs.size → (pushAll h os).update d f = pushAll (h.update d f) os
  | [], _, _ => rfl
  | x :: os, h, e => by
    show (pushAll (h.push x) os).update d f = pushAll ((h.update d f).push x) os
    rw [pushAll_update os (h.push x) (by rw [Heap.size_push]; exact Nat.lt_succ_of_lt e), Heap.update_push _ _ _ _ (Nat.ne_of_lt e)]
section
variable {w : World} {n₀ : Nat} {ann : Option Value} {α β σ γ : Type} {n m : Nat} {s s' s₁ : Shared} {p p' p₁ q : Pos} {a : α} {b : β} {x : Sem α}
theorem lead_forIn_cons {y : γ} {ys : List γ} {f : γ → σ → Sem (ForInStep σ)} {b b' r : σ} (h : Lead w n₀ ann n (f y b) s p (.yield b') s₁ p₁) (g : Lead w n₀ ann m (forIn ys b' f) s₁ p₁ r s' p') :
    Lead w n₀ ann (m + n) (forIn (y :: ys) b f) s p r s' p' := by
  rw [List.forIn_cons]
  exact lead_bind h g
theorem lead_forIn_nil {f : γ → σ → Sem (ForInStep σ)} {b : σ} : Lead w n₀ ann n (forIn ([] : List γ) b f) s p b s p := by
  rw [List.forIn_nil]; exact lead_pure' _
theorem lead_range {f : Nat → PUnit → Sem (ForInStep PUnit)} {c : Nat} (S : Nat → Shared) : ∀ (k i : Nat), (∀ j, i ≤ j → j < i + k → Lead w n₀ ann c (f j PUnit.unit) (S j) p (ForInStep.yield PUnit.unit) (S (j + 1)) p) → Lead w n₀ ann (c * k) (forIn (List.range' i k) PUnit.unit f) (S i) p PUnit.unit (S (i + k)) p
  | 0, i, _ => lead_forIn_nil
  | k + 1, i, h => by
    rw [List.range'_succ, Nat.mul_succ]
    have := lead_range S k (i + 1) fun j h1 h2 => h j (by omega) (by omega)
    rw [show i + 1 + k = i + k + 1 by omega] at this
    exact lead_forIn_cons (h i (Nat.le_refl _) (by omega)) this
theorem nodup_find {es : List DictEntry} {e : DictEntry} {rest : List DictEntry} (h : ((es ++ e :: rest).map (·.hash)).Nodup) : ∀ x ∈ es, x.hash ≠ e.hash := by
  intro x hx q
  rw [List.map_append, List.nodup_append] at h
  exact h.2.2 x.hash (List.mem_map.mpr ⟨x, hx, rfl⟩) e.hash (by simp) q
theorem lead_put {d : Addr} {es : List DictEntry} {k : Int} {t : Tok} {v : Value} (ho : s.heap.get? d = some (dO es)) (hn : n₀ ≤ d) (hz : es.length ≤ 10000) (hk : ∀ e ∈ es, e.hash ≠ hashInt k) :
    Lead w n₀ ann 4 (dictPut d (hashInt k) (.int k t) v) s p () { s with heap := s.heap.update d fun _ => dO (es ++ [⟨hashInt k, .int k t, v⟩]) } p := by
  unfold dictPut
  refine lead_bind (m := 3) (lead_find ho hk) ?_
  exact lead_keys ho hn hz
theorem sub_dict : isSubtype (.type "dict") (.type "dict") = pure true := by kernel_rfl
theorem lead_merge {d a : Addr} {es0 es1 : List DictEntry} (hd : s.heap.get? d = some (dO es0)) (ha : s.heap.get? a = some (dO es1)) (hda : d ≠ a) (hn : n₀ ≤ d) (hne : es0 ≠ []) (hz : es0.length + es1.length ≤ 10000)
    (hent : ∀ e ∈ es1, Ent e) (hnd : ((es0 ++ es1).map (·.hash)).Nodup) (hm : (a == sysModules) = false) :
    Lead w n₀ ann (6 * es1.length + 5) (mergeMapping d (.ref a) false) s p () { s with heap := s.heap.update d fun _ => dO (es0 ++ es1) } p := by
  have hty : Lead w n₀ ann 1 (typeOf (.ref a)) s p (.type "dict") s p := by
    show Lead w n₀ ann 1 (do return (← loadPart a (some headPart)).cls) s p _ s p
    exact lead_bind (m := 0) (lead_load (n := 0) ha (lead_pure _)) (lead_pure' _)
  unfold mergeMapping
  refine lead_bind (n := 1) (m := 6 * es1.length + 4) (a := true) (s₁ := s) (p₁ := p) ?_ ?_
  · unfold isInstance
    exact lead_bind (n := 1) (m := 0) (a := .type "dict") (s₁ := s) (p₁ := p) hty (lead_eq sub_dict (lead_pure' _))
  refine lead_eq (if_pos rfl) ?_
  refine lead_bind (n := 1) (m := 6 * es1.length + 3) (a := some (.builtin "dict.__iter__")) (s₁ := s) (p₁ := p) ?_ ?_
  · unfold specialOf
    exact lead_bind (n := 1) (m := 0) (a := .type "dict") (s₁ := s) (p₁ := p) hty (lead_eq F.slot_dict_iter.lookup (lead_pure' _))
  refine lead_bind (n := 0) (a := true) (s₁ := s) (p₁ := p) ?_ ?_
  · refine lead_eq (y := pure true) ?_ (lead_pure' _)
    exact congrArg pure (by decide)
  dsimp only
  refine lead_eq (if_neg (by rw [hm]; decide)) ?_
  refine lead_bind (n := 1) (m := 6 * es1.length + 2) (lead_entries hd) ?_
  refine lead_eq (if_neg (by cases es0 with | nil => exact absurd rfl hne | cons x l => simp)) ?_
  refine lead_bind (n := 1) (m := 6 * es1.length + 1) (lead_entries ha) ?_
  refine lead_bind (n := 1) (m := 6 * es1.length) (lead_epoch ha) ?_
  let S : Nat → Shared := fun j => { s with heap := s.heap.update d fun _ => dO (es0 ++ es1.take j) }
  have e0 : S 0 = s := by
    show ({ s with heap := s.heap.update d fun _ => dO (es0 ++ []) } : Shared) = s
    rw [List.append_nil, update_self hd]
  have hl : es1.toArray.size = es1.length := List.size_toArray ..
  refine lead_mono (n := 0 + 6 * es1.length) ?_ (by omega)
  refine lead_bind (n := 6 * es1.length) (m := 0) (a := PUnit.unit) (s₁ := S es1.length) (p₁ := p) ?_ ?_
  · rw [List.range_eq_range', hl]
    have key := lead_range (w := w) (n₀ := n₀) (ann := ann) (p := p) (c := 6) S es1.length 0 (f := ?_) ?_
    · rw [e0, Nat.zero_add] at key
      exact key
    · intro j _ hj
      rw [Nat.zero_add] at hj
      have hdj : (S j).heap.get? d = some (dO (es0 ++ es1.take j)) := get_update_dO hd _
      have haj : (S j).heap.get? a = some (dO es1) := (Heap.get?_update_ne _ _ _ _ (Ne.symm hda)).trans ha
      have hej : es1[j]? = some es1[j] := List.getElem?_eq_getElem hj
      have htk : es1.take (j + 1) = es1.take j ++ [es1[j]] := by rw [List.take_add_one, hej]; rfl
      obtain ⟨k, t, v, he⟩ := hent es1[j] (List.getElem_mem hj)
      have hfind : ∀ e ∈ es0 ++ es1.take j, e.hash ≠ hashInt k := by
        have : es0 ++ es1 = (es0 ++ es1.take j) ++ es1[j] :: es1.drop (j + 1) := by
          rw [List.append_assoc, List.getElem_cons_drop, List.take_append_drop]
        rw [this] at hnd
        have := nodup_find hnd
        rwa [he] at this
      refine lead_bind (n := 1) (m := 5) (lead_entries haj) ?_
      rw [show es1.toArray[j]? = some ⟨hashInt k, .int k t, v⟩ from by rw [List.getElem?_toArray, hej, he]]
      dsimp only
      refine lead_bind (n := 4) (m := 1) (a := PUnit.unit) (s₁ := S (j + 1)) (p₁ := p) ?_ ?_
      · refine lead_holding ?_
        refine lead_eq (if_neg (by decide)) ?_
        have := lead_put (w := w) (ann := ann) (p := p) (v := v) (t := t) hdj hn (by rw [List.length_append, List.length_take]; omega) hfind
        have e2 : ({ S j with heap := (S j).heap.update d fun _ => dO ((es0 ++ es1.take j) ++ [⟨hashInt k, .int k t, v⟩]) } : Shared) = S (j + 1) := by
          show ({ s with heap := (s.heap.update d fun _ => dO (es0 ++ es1.take j)).update d fun _ => dO ((es0 ++ es1.take j) ++ [⟨hashInt k, .int k t, v⟩]) } : Shared) = { s with heap := s.heap.update d fun _ => dO (es0 ++ es1.take (j + 1)) }
          rw [update_update, htk, he, List.append_assoc]
        rw [e2] at this
        exact this
      · have haj' : (S (j + 1)).heap.get? a = some (dO es1) := (Heap.get?_update_ne _ _ _ _ (Ne.symm hda)).trans ha
        refine lead_bind (n := 1) (m := 0) (lead_epoch haj') ?_
        refine lead_eq (if_neg (by simp)) ?_
        exact lead_pure' _
  · have : S es1.length = { s with heap := s.heap.update d fun _ => dO (es0 ++ es1) } := by
      show ({ s with heap := s.heap.update d fun _ => dO (es0 ++ es1.take es1.length) } : Shared) = _
      rw [List.take_length]
    rw [this]
    exact lead_pure' _
end
end partHead3
section partHead4
set_option autoImplicit false
/-- trees that read the written pairs -/
inductive Rds (w : World) (n₀ : Nat) (ann : Option Value) (q : Pos) : List (Sem Value × Sem Value) → List (Int × Str) → Prop
  | nil : Rds w n₀ ann q [] []
  | cons {a b : Sem Value} {k : Int} {x : Str} {r : List (Sem Value × Sem Value)} {ps : List (Int × Str)} : (∀ s, Lead w n₀ ann 1 a s q (.int k s.toks) { s with toks := s.toks + 1 } q) → (∀ s, Lead w n₀ ann 2 b s q (.str x s.toks) { s with toks := s.toks + 1 } q) →
      Rds w n₀ ann q r ps → Rds w n₀ ann q ((a, b) :: r) ((k, x) :: ps)
def vals : Nat → List (Int × Str) → List (Value × Value)
  | _, [] => []
  | t, (k, x) :: r => (.int k t, .str x (t + 1)) :: vals (t + 2) r
section
variable {w : World} {n₀ : Nat} {ann : Option Value} {α β σ γ : Type} {n m : Nat} {s s' s₁ : Shared} {p p' p₁ q : Pos} {a : α} {b : β} {x : Sem α}
theorem Rds.length {ys : List (Sem Value × Sem Value)} {ps : List (Int × Str)} (h : Rds w n₀ ann q ys ps) : ys.length = ps.length := by
  induction h with
  | nil => rfl
  | cons _ _ _ ih => simp [ih]
theorem lead_sub_loop {d : Addr} {f : Sem Value × Sem Value → PUnit → Sem (ForInStep PUnit)} (hf : ∀ k v u, f (k, v) u = (do let kv ← k; let vv ← holding [kv] v; holding [kv, vv] (dictSet d kv vv); pure (ForInStep.yield PUnit.unit)))
    {ys : List (Sem Value × Sem Value)} {ps : List (Int × Str)} (h : Rds w n₀ ann q ys ps) (hn : n₀ ≤ d) : ∀ (es : List DictEntry) (s : Shared), s.heap.get? d = some (dO es) → ((es ++ ents 3 s.toks ps).map (·.hash)).Nodup → es.length + ps.length ≤ 10000 →
      Lead w n₀ ann (13 * ps.length) (forIn ys PUnit.unit f) s q PUnit.unit { s with heap := s.heap.update d fun _ => dO (es ++ ents 3 s.toks ps), toks := s.toks + 3 * ps.length } q := by
  induction h with
  | nil =>
    intro es s ho _ _
    have : ({ s with heap := s.heap.update d fun _ => dO (es ++ ents 3 s.toks []), toks := s.toks + 3 * ([] : List (Int × Str)).length } : Shared) = s := by
      show ({ s with heap := s.heap.update d fun _ => dO (es ++ []), toks := s.toks } : Shared) = s
      rw [List.append_nil, update_self ho]
    rw [this]
    exact lead_forIn_nil
  | @cons ka vb k x r ps ha hb hr ih =>
    intro es s ho hnd hz
    have hfind := nodup_find hnd
    let e : DictEntry := ⟨hashInt k, .int k s.toks, .str x (s.toks + 1)⟩
    let s1 : Shared := { s with heap := s.heap.update d fun _ => dO (es ++ [e]), toks := s.toks + 1 + 1 + 1 }
    have ih1 := ih (es ++ [e]) s1 (get_update_dO ho _) (by rw [List.append_assoc]; exact hnd) (by simp only [List.length_append, List.length_cons, List.length_nil] at hz ⊢; omega)
    have eq : ({ s1 with heap := s1.heap.update d fun _ => dO ((es ++ [e]) ++ ents 3 s1.toks ps), toks := s1.toks + 3 * ps.length } : Shared) = { s with heap := s.heap.update d fun _ => dO (es ++ ents 3 s.toks ((k, x) :: ps)), toks := s.toks + 3 * ((k, x) :: ps).length } := by
      show ({ s with heap := (s.heap.update d fun _ => dO (es ++ [e])).update d fun _ => dO ((es ++ [e]) ++ ents 3 (s.toks + 3) ps), toks := s.toks + 1 + 1 + 1 + 3 * ps.length } : Shared) = { s with heap := s.heap.update d fun _ => dO (es ++ e :: ents 3 (s.toks + 3) ps), toks := s.toks + 3 * (ps.length + 1) }
      rw [update_update, List.append_assoc, show s.toks + 1 + 1 + 1 + 3 * ps.length = s.toks + 3 * (ps.length + 1) by omega]
      rfl
    rw [eq] at ih1
    rw [List.length_cons, Nat.mul_succ]
    refine lead_forIn_cons ?_ ih1
    rw [hf]
    refine lead_bind (n := 1) (m := 12) (ha s) ?_
    refine lead_bind (n := 2) (m := 10) (lead_holding (hb _)) ?_
    refine lead_bind (n := 10) (m := 0) (lead_holding (lead_set (s := { s with toks := s.toks + 1 + 1 }) ho hn (by simp only [List.length_cons] at hz; omega) hfind)) ?_
    exact lead_pure' _
theorem lead_evalPairs {ys : List (Sem Value × Sem Value)} {ps : List (Int × Str)} (h : Rds w n₀ ann q ys ps) : ∀ (s : Shared),
      Lead w n₀ ann (3 * ps.length) (evalPairs ys) s q (vals s.toks ps) { s with toks := s.toks + 2 * ps.length } q := by
  induction h with
  | nil => intro s; exact lead_pure' _
  | @cons ka vb k x r ps ha hb hr ih =>
    intro s
    rw [List.length_cons, Nat.mul_succ, Nat.mul_succ]
    unfold evalPairs
    refine lead_bind (n := 1) (m := 3 * ps.length + 2) (ha s) ?_
    refine lead_bind (n := 2) (m := 3 * ps.length) (lead_holding (hb _)) ?_
    have := ih { s with toks := s.toks + 1 + 1 }
    refine lead_mono (n := 0 + 3 * ps.length) ?_ (by omega)
    refine lead_bind (m := 0) (lead_holding this) ?_
    have e2 : s.toks + 1 + 1 + 2 * ps.length = s.toks + (2 * ps.length + 2) := by omega
    show Lead w n₀ ann 0 (pure (_ :: vals (s.toks + 1 + 1) ps)) { s with toks := s.toks + 1 + 1 + 2 * ps.length } q _ _ q
    rw [e2]
    exact lead_pure' _
theorem lead_short_loop {d : Addr} {f : Value × Value → PUnit → Sem (ForInStep PUnit)} (hf : ∀ k v u, f (k, v) u = (do dictSet d k v; pure (ForInStep.yield PUnit.unit))) (hn : n₀ ≤ d) :
    ∀ (ps : List (Int × Str)) (t : Nat) (es : List DictEntry) (s : Shared), s.heap.get? d = some (dO es) → ((es ++ ents 2 t ps).map (·.hash)).Nodup → es.length + ps.length ≤ 10000 →
      Lead w n₀ ann (10 * ps.length) (forIn (vals t ps) PUnit.unit f) s q PUnit.unit { s with heap := s.heap.update d fun _ => dO (es ++ ents 2 t ps), toks := s.toks + ps.length } q
  | [], t, es, s, ho, _, _ => by
    have : ({ s with heap := s.heap.update d fun _ => dO (es ++ ents 2 t []), toks := s.toks + ([] : List (Int × Str)).length } : Shared) = s := by
      show ({ s with heap := s.heap.update d fun _ => dO (es ++ []), toks := s.toks } : Shared) = s
      rw [List.append_nil, update_self ho]
    rw [this]
    exact lead_forIn_nil
  | (k, x) :: ps, t, es, s, ho, hnd, hz => by
    have hfind := nodup_find hnd
    let e : DictEntry := ⟨hashInt k, .int k t, .str x (t + 1)⟩
    let s1 : Shared := { s with heap := s.heap.update d fun _ => dO (es ++ [e]), toks := s.toks + 1 }
    have ih1 := lead_short_loop hf hn ps (t + 2) (es ++ [e]) s1 (get_update_dO ho _) (by rw [List.append_assoc]; exact hnd) (by simp only [List.length_append, List.length_cons, List.length_nil] at hz ⊢; omega)
    have eq : ({ s1 with heap := s1.heap.update d fun _ => dO ((es ++ [e]) ++ ents 2 (t + 2) ps), toks := s1.toks + ps.length } : Shared) = { s with heap := s.heap.update d fun _ => dO (es ++ ents 2 t ((k, x) :: ps)), toks := s.toks + ((k, x) :: ps).length } := by
      show ({ s with heap := (s.heap.update d fun _ => dO (es ++ [e])).update d fun _ => dO ((es ++ [e]) ++ ents 2 (t + 2) ps), toks := s.toks + 1 + ps.length } : Shared) = { s with heap := s.heap.update d fun _ => dO (es ++ e :: ents 2 (t + 2) ps), toks := s.toks + (ps.length + 1) }
      rw [update_update, List.append_assoc, show s.toks + 1 + ps.length = s.toks + (ps.length + 1) by omega]
      rfl
    rw [eq] at ih1
    rw [List.length_cons, Nat.mul_succ]
    refine lead_forIn_cons ?_ ih1
    rw [hf]
    refine lead_bind (n := 10) (m := 0) (lead_set ho hn (by simp only [List.length_cons] at hz; omega) hfind) ?_
    exact lead_pure' _
theorem dO_nil : ({ cls := .type "dict", data := .dict #[] } : Obj) = dO [] := rfl
theorem lead_subLong {ys : List (Sem Value × Sem Value)} {ps : List (Int × Str)} (h : Rds w n₀ ann q ys ps) (hl : 15 < ps.length) (hz : ps.length ≤ 10000) (hn : n₀ ≤ s.heap.objs.size) (hnd : (ps.map fun y => hashInt y.1).Nodup) :
    Lead w n₀ ann (13 * ps.length + 2) (subDict ys) s q s.heap.objs.size { s with heap := s.heap.push (dO (ents 3 s.toks ps)), toks := s.toks + 3 * ps.length } q := by
  unfold subDict
  refine lead_bind (n := 1) (m := 13 * ps.length + 1) (lead_alloc (n := 0) (lead_pure _)) ?_
  rw [dO_nil]
  have ho : (s.heap.push (dO [])).get? s.heap.objs.size = some (dO []) := Heap.get?_push_size _ rfl
  let s1 : Shared := { s with heap := s.heap.push (dO []) }
  have e3 : ({ s with heap := s.heap.push (dO (ents 3 s.toks ps)), toks := s.toks + 3 * ps.length } : Shared) = { s1 with heap := s1.heap.update s.heap.objs.size fun _ => dO ([] ++ ents 3 s1.toks ps), toks := s1.toks + 3 * ps.length } := by
    show _ = ({ s with heap := (s.heap.push (dO [])).update s.heap.objs.size fun _ => dO (ents 3 s.toks ps), toks := s.toks + 3 * ps.length } : Shared)
    rw [push_update]
  refine lead_mono (n := 0 + (13 * ps.length + 1)) ?_ (by omega)
  refine lead_bind (m := 0) (n := 13 * ps.length + 1) (a := PUnit.unit) (s₁ := { s with heap := s.heap.push (dO (ents 3 s.toks ps)), toks := s.toks + 3 * ps.length }) (p₁ := q) (lead_holding ?_) (lead_pure' _)
  refine lead_eq (if_neg (by rw [h.length]; omega)) ?_
  refine lead_bind (n := 1) (m := 13 * ps.length) (lead_rule (n := 0) (lead_pure _)) ?_
  refine lead_mono (n := 0 + 13 * ps.length) ?_ (by omega)
  refine lead_bind (m := 0) (n := 13 * ps.length) (a := PUnit.unit) (s₁ := { s with heap := s.heap.push (dO (ents 3 s.toks ps)), toks := s.toks + 3 * ps.length }) (p₁ := q) ?_ (lead_pure' _)
  rw [e3]
  exact lead_sub_loop (fun _ _ _ => rfl) h hn [] s1 ho (by rw [List.nil_append, ents_hash]; exact hnd) (by simpa using hz)
theorem lead_subShort {ys : List (Sem Value × Sem Value)} {ps : List (Int × Str)} (h : Rds w n₀ ann q ys ps) (hl : ps.length ≤ 15) (hn : n₀ ≤ s.heap.objs.size) (hnd : (ps.map fun y => hashInt y.1).Nodup) :
    Lead w n₀ ann (13 * ps.length + 1) (subDict ys) s q s.heap.objs.size { s with heap := s.heap.push (dO (ents 2 s.toks ps)), toks := s.toks + 3 * ps.length } q := by
  unfold subDict
  refine lead_bind (n := 1) (m := 13 * ps.length) (lead_alloc (n := 0) (lead_pure _)) ?_
  rw [dO_nil]
  have ho : (s.heap.push (dO [])).get? s.heap.objs.size = some (dO []) := Heap.get?_push_size _ rfl
  let s1 : Shared := { s with heap := s.heap.push (dO []), toks := s.toks + 2 * ps.length }
  have e3 : ({ s with heap := s.heap.push (dO (ents 2 s.toks ps)), toks := s.toks + 3 * ps.length } : Shared) = { s1 with heap := s1.heap.update s.heap.objs.size fun _ => dO ([] ++ ents 2 s.toks ps), toks := s1.toks + ps.length } := by
    show _ = ({ s with heap := (s.heap.push (dO [])).update s.heap.objs.size fun _ => dO (ents 2 s.toks ps), toks := s.toks + 2 * ps.length + ps.length } : Shared)
    rw [push_update, show s.toks + 2 * ps.length + ps.length = s.toks + 3 * ps.length by omega]
  refine lead_mono (n := 0 + 13 * ps.length) ?_ (by omega)
  refine lead_bind (m := 0) (n := 13 * ps.length) (a := PUnit.unit) (s₁ := { s with heap := s.heap.push (dO (ents 2 s.toks ps)), toks := s.toks + 3 * ps.length }) (p₁ := q) (lead_holding ?_) (lead_pure' _)
  refine lead_eq (if_pos (by rw [h.length]; exact hl)) ?_
  refine lead_mono (n := 10 * ps.length + 3 * ps.length) ?_ (by omega)
  refine lead_bind (n := 3 * ps.length) (m := 10 * ps.length) (lead_evalPairs h { s with heap := s.heap.push (dO []) }) ?_
  refine lead_holding ?_
  refine lead_mono (n := 0 + 10 * ps.length) ?_ (by omega)
  refine lead_bind (m := 0) (n := 10 * ps.length) (a := PUnit.unit) (s₁ := { s with heap := s.heap.push (dO (ents 2 s.toks ps)), toks := s.toks + 3 * ps.length }) (p₁ := q) ?_ (lead_pure' _)
  rw [e3]
  exact lead_short_loop (fun _ _ _ => rfl) hn ps s.toks [] s1 ho (by rw [List.nil_append, ents_hash]; exact hnd) (by simp; omega)
end
end partHead4
section partHead5
set_option autoImplicit false
abbrev Pr := Sem Value × Sem Value
def flushM (run : List Pr) (main : Option Addr) : Sem (Option Addr) :=
  if run.isEmpty then pure main else match main with
    | none => do return some (← subDict run)
    | some d => do
      let sub ← holding [.ref d] (subDict run)
      (holding [.ref d, .ref sub] (mergeMapping d (.ref sub) false)).onRaise fun x => do let _ ← holding [.ref d, x] (runValue (.builtin "proto.let_go" {}))
      return some d
def so (y : Pr) : Option (Sem Value) × Sem Value := (some y.1, y.2)
abbrev LoopF := Option (Sem Value) × Sem Value → Option Addr × List Pr → Sem (ForInStep (Option Addr × List Pr))
def Turns (f : LoopF) : Prop := ∀ (y : Pr) (main : Option Addr) (run : List Pr), f (so y) (main, run) =
  if ((run ++ [y]).length == 17) = true then (do let main ← flushM (run ++ [y]) main; pure (ForInStep.yield (main, []))) else pure (ForInStep.yield (main, run ++ [y]))
def chunkObjs : Nat → List (List (Int × Str)) → List Obj
  | _, [] => []
  | t, c :: r => dO (ents 3 t c) :: chunkObjs (t + 3 * c.length) r
inductive Chunks (w : World) (n₀ : Nat) (ann : Option Value) (q : Pos) : List (List Pr) → List (List (Int × Str)) → Prop
  | nil : Chunks w n₀ ann q [] []
  | cons {c : List Pr} {pc : List (Int × Str)} {r : List (List Pr)} {pr : List (List (Int × Str))} : Rds w n₀ ann q c pc → pc.length = 17 → Chunks w n₀ ann q r pr → Chunks w n₀ ann q (c :: r) (pc :: pr)
section
variable {w : World} {n₀ : Nat} {ann : Option Value} {α β σ γ : Type} {n m : Nat} {s s' s₁ : Shared} {p p' p₁ q : Pos} {a : α} {b : β} {x : Sem α}
theorem lead_acc {f : LoopF} (hf : Turns f) {main : Option Addr} {ys : List (Option (Sem Value) × Sem Value)} {r : Option Addr × List Pr} : ∀ (xs run : List Pr), run.length + xs.length < 17 → Lead w n₀ ann m (forIn ys (main, run ++ xs) f) s p r s' p' →
    Lead w n₀ ann m (forIn (xs.map so ++ ys) (main, run) f) s p r s' p'
  | [], run, _, h => by rw [List.append_nil] at h; exact h
  | y :: xs, run, hl, h => by
    rw [List.map_cons, List.cons_append]
    refine lead_forIn_cons (n := 0) (b' := (main, run ++ [y])) (s₁ := s) (p₁ := p) ?_ (lead_acc hf xs (run ++ [y]) (by simp only [List.length_append, List.length_cons, List.length_nil] at hl ⊢; omega) (by rw [List.append_assoc]; exact h))
    rw [hf]
    refine lead_eq (if_neg ?_) (lead_pure' _)
    simp only [List.length_append, List.length_cons, List.length_nil, beq_iff_eq] at hl ⊢
    omega
theorem lead_chunk {f : LoopF} (hf : Turns f) {main main' : Option Addr} {ys : List (Option (Sem Value) × Sem Value)} {r : Option Addr × List Pr} {k : Nat} {xs : List Pr} (hl : xs.length = 17) (hfl : Lead w n₀ ann k (flushM xs main) s p main' s₁ p₁)
    (h : Lead w n₀ ann m (forIn ys (main', []) f) s₁ p₁ r s' p') : Lead w n₀ ann (m + k) (forIn (xs.map so ++ ys) (main, []) f) s p r s' p' := by
  obtain ⟨pre, y, rfl⟩ : ∃ pre y, xs = pre ++ [y] := ⟨xs.dropLast, xs.getLast (by intro q; rw [q] at hl; cases hl), (List.dropLast_concat_getLast _).symm⟩
  rw [List.map_append, List.append_assoc]
  refine lead_acc hf pre [] (by simp only [List.length_append, List.length_cons, List.length_nil] at hl ⊢; omega) ?_
  rw [List.nil_append]
  refine lead_forIn_cons (n := k) (b' := (main', [])) ?_ h
  rw [hf]
  refine lead_eq (if_pos (by rw [hl]; rfl)) ?_
  refine lead_mono (n := 0 + k) ?_ (by omega)
  exact lead_bind (m := 0) hfl (lead_pure' _)
/-- a flush into the dict that stands: the sub dict is made by sub -/
theorem lead_flush {h : Heap} {E En : List DictEntry} {subs : List Obj} {ys : List Pr} {k kt : Nat} (hs : s.heap = pushAll (h.push (dO E)) subs) (hne : ys ≠ []) (hE : E ≠ [])
    (hsub : Lead w n₀ ann k (subDict ys) s q s.heap.objs.size { s with heap := s.heap.push (dO En), toks := s.toks + kt } q) (hn : n₀ ≤ h.objs.size) (hsys : ∀ a, n₀ ≤ a → (a == sysModules) = false)
    (hz : E.length + En.length ≤ 10000) (hent : ∀ e ∈ En, Ent e) (hnd : ((E ++ En).map (·.hash)).Nodup) :
    Lead w n₀ ann ((6 * En.length + 6) + k) (flushM ys (some h.objs.size)) s q (some h.objs.size) { s with heap := pushAll (h.push (dO (E ++ En))) (subs ++ [dO En]), toks := s.toks + kt } q := by
  have hsz : s.heap.objs.size = h.objs.size + 1 + subs.length := by rw [hs, pushAll_size, Heap.size_push]
  have hd0 : s.heap.get? h.objs.size = some (dO E) := by rw [hs]; exact pushAll_get _ _ (Heap.get?_push_size _ rfl)
  have hd : (s.heap.push (dO En)).get? h.objs.size = some (dO E) := Heap.get?_push_of_some _ hd0
  have ha : (s.heap.push (dO En)).get? s.heap.objs.size = some (dO En) := Heap.get?_push_size _ rfl
  have hda : h.objs.size ≠ s.heap.objs.size := by omega
  have hup : ((s.heap.push (dO En)).update h.objs.size fun _ => dO (E ++ En)) = pushAll (h.push (dO (E ++ En))) (subs ++ [dO En]) := by
    rw [hs, pushAll_snoc, pushAll_update _ _ (by rw [Heap.size_push]; exact Nat.lt_succ_self _), push_update]
  unfold flushM
  refine lead_eq (if_neg (by cases ys with | nil => exact absurd rfl hne | cons x l => simp)) ?_
  refine lead_bind (n := k) (m := 6 * En.length + 6) (lead_holding hsub) ?_
  refine lead_mono (n := 0 + (6 * En.length + 6)) ?_ (by omega)
  refine lead_bind (n := 6 * En.length + 6) (m := 0) (a := ()) (s₁ := { s with heap := pushAll (h.push (dO (E ++ En))) (subs ++ [dO En]), toks := s.toks + kt }) (p₁ := q) ?_ (lead_pure' _)
  rw [← hup]
  exact lead_mono (n := 6 * En.length + 5) (lead_onRaise (lead_holding (lead_merge (s := { s with heap := s.heap.push (dO En), toks := s.toks + kt }) hd ha hda hn hE hz hent hnd (hsys _ (by omega))))) (by omega)
theorem lead_chunks {f : LoopF} (hf : Turns f) {h : Heap} (hn : n₀ ≤ h.objs.size) (hsys : ∀ a, n₀ ≤ a → (a == sysModules) = false) {ys : List (Option (Sem Value) × Sem Value)} {r : Option Addr × List Pr}
    {cs : List (List Pr)} {pcs : List (List (Int × Str))} (hc : Chunks w n₀ ann q cs pcs) : ∀ (E : List DictEntry) (subs : List Obj) (s : Shared), s.heap = pushAll (h.push (dO E)) subs → E ≠ [] →
      ((E ++ ents 3 s.toks pcs.flatten).map (·.hash)).Nodup → E.length + pcs.flatten.length ≤ 10000 →
      Lead w n₀ ann m (forIn ys (some h.objs.size, []) f) { s with heap := pushAll (h.push (dO (E ++ ents 3 s.toks pcs.flatten))) (subs ++ chunkObjs s.toks pcs), toks := s.toks + 3 * pcs.flatten.length } q r s' q →
      Lead w n₀ ann (m + 400 * cs.length) (forIn (cs.flatten.map so ++ ys) (some h.objs.size, []) f) s q r s' q := by
  induction hc with
  | nil =>
    intro E subs s hs hE _ _ hl
    have : ({ s with heap := pushAll (h.push (dO (E ++ ents 3 s.toks ([] : List (List (Int × Str))).flatten))) (subs ++ chunkObjs s.toks []), toks := s.toks + 3 * ([] : List (List (Int × Str))).flatten.length } : Shared) = s := by
      show ({ s with heap := pushAll (h.push (dO (E ++ []))) (subs ++ []), toks := s.toks } : Shared) = s
      rw [List.append_nil, List.append_nil, ← hs]
    rw [this] at hl
    exact hl
  | @cons c pc cr pr hr hlen hrest ih =>
    intro E subs s hs hE hnd hz hl
    have hcl : c.length = 17 := hr.length.trans hlen
    rw [List.flatten_cons, List.map_append, List.append_assoc, List.length_cons, Nat.mul_succ]
    rw [List.flatten_cons, ents_app, ← List.append_assoc] at hnd
    rw [List.flatten_cons, List.length_append] at hz
    have hel := ents_len 3 s.toks pc
    have hnd1 : ((E ++ ents 3 s.toks pc).map (·.hash)).Nodup := by
      rw [List.map_append] at hnd
      exact (List.nodup_append.mp hnd).1
    have hnd2 : (pc.map fun y => hashInt y.1).Nodup := by
      rw [← ents_hash 3 s.toks]
      rw [List.map_append] at hnd1
      exact (List.nodup_append.mp hnd1).2.1
    have hsub := lead_subLong (s := s) hr (by omega) (by omega) (show n₀ ≤ s.heap.objs.size by rw [hs, pushAll_size, Heap.size_push]; omega) hnd2
    have hfl := lead_flush (s := s) hs (by intro q; rw [q] at hcl; cases hcl) hE hsub hn hsys (by omega) (ents_ent _ _ _) hnd1
    refine lead_mono (n := (m + 400 * cr.length) + ((6 * (ents 3 s.toks pc).length + 6) + (13 * pc.length + 2))) ?_ (by omega)
    refine lead_chunk hf hcl hfl ?_
    refine ih (E ++ ents 3 s.toks pc) (subs ++ [dO (ents 3 s.toks pc)]) { s with heap := pushAll (h.push (dO (E ++ ents 3 s.toks pc))) (subs ++ [dO (ents 3 s.toks pc)]), toks := s.toks + 3 * pc.length } rfl (by simp [hE]) hnd (by rw [List.length_append]; omega) ?_
    have e : ({ s with heap := pushAll (h.push (dO (E ++ ents 3 s.toks (pc :: pr).flatten))) (subs ++ chunkObjs s.toks (pc :: pr)), toks := s.toks + 3 * (pc :: pr).flatten.length } : Shared) =
        { s with heap := pushAll (h.push (dO ((E ++ ents 3 s.toks pc) ++ ents 3 (s.toks + 3 * pc.length) pr.flatten))) ((subs ++ [dO (ents 3 s.toks pc)]) ++ chunkObjs (s.toks + 3 * pc.length) pr), toks := (s.toks + 3 * pc.length) + 3 * pr.flatten.length } := by
      show ({ s with heap := pushAll (h.push (dO (E ++ ents 3 s.toks (pc ++ pr.flatten)))) (subs ++ dO (ents 3 s.toks pc) :: chunkObjs (s.toks + 3 * pc.length) pr), toks := s.toks + 3 * (pc ++ pr.flatten).length } : Shared) = _
      rw [ents_app, List.append_assoc, List.append_assoc, List.length_append, Nat.mul_add, Nat.add_assoc]
      rfl
    rw [e] at hl
    exact hl
end
end partHead5
section partHead6
set_option autoImplicit false
theorem display_eq : ∃ f : LoopF, Turns f ∧ ∀ items, dictDisplay items = (do
    let st ← forIn items ((none, []) : Option Addr × List Pr) f
    match ← flushM st.2 st.1 with
    | some d => pure (.ref d)
    | none => newDict) := by
  apply Exists.intro
  constructor
  rotate_left
  · intro items
    unfold dictDisplay flushM
    rfl
  · intro y main run
    rfl
section
variable {w : World} {n₀ : Nat} {ann : Option Value} {α β σ γ : Type} {n m : Nat} {s s' s₁ : Shared} {p p' p₁ q : Pos} {a : α} {b : β} {x : Sem α}
theorem Chunks.length {cs : List (List Pr)} {pcs : List (List (Int × Str))} (h : Chunks w n₀ ann q cs pcs) : cs.length = pcs.length ∧ pcs.flatten.length = 17 * pcs.length := by
  induction h with
  | nil => exact ⟨rfl, rfl⟩
  | cons _ hl _ ih => rw [List.flatten_cons, List.length_append, List.length_cons, List.length_cons, hl]; omega
theorem lead_display {c0 l : List Pr} {cs : List (List Pr)} {p0 pl : List (Int × Str)} {pcs : List (List (Int × Str))} (h0 : Rds w n₀ ann q c0 p0) (h0l : p0.length = 17) (hc : Chunks w n₀ ann q cs pcs) (hl : Rds w n₀ ann q l pl) (hl0 : 0 < pl.length) (hl1 : pl.length ≤ 15)
    (hn : n₀ ≤ s.heap.objs.size) (hsys : ∀ a, n₀ ≤ a → (a == sysModules) = false) (hnd : (((p0 ++ pcs.flatten) ++ pl).map fun y => hashInt y.1).Nodup) (hz : ((p0 ++ pcs.flatten) ++ pl).length ≤ 10000) :
    Lead w n₀ ann (1000 + 400 * cs.length) (dictDisplay ((c0 ++ (cs.flatten ++ l)).map so)) s q (.ref s.heap.objs.size)
      { s with heap := pushAll (s.heap.push (dO (ents 3 s.toks (p0 ++ pcs.flatten) ++ ents 2 (s.toks + 3 * (p0 ++ pcs.flatten).length) pl))) (chunkObjs (s.toks + 3 * p0.length) pcs ++ [dO (ents 2 (s.toks + 3 * (p0 ++ pcs.flatten).length) pl)]), toks := s.toks + 3 * ((p0 ++ pcs.flatten) ++ pl).length } q := by
  obtain ⟨f, hf, hd⟩ := display_eq
  rw [hd, List.map_append, List.map_append]
  have hll := hl.length
  have h0c := h0.length
  rw [List.length_append] at hz
  rw [List.map_append] at hnd
  have hndA := (List.nodup_append.mp hnd).1
  have hnd0 : (p0.map fun y => hashInt y.1).Nodup := by
    rw [List.map_append] at hndA
    exact (List.nodup_append.mp hndA).1
  have hndl : (pl.map fun y => hashInt y.1).Nodup := (List.nodup_append.mp hnd).2.1
  have hel := ents_len 3 s.toks p0
  let E0 := ents 3 s.toks p0
  let s1 : Shared := { s with heap := s.heap.push (dO E0), toks := s.toks + 3 * p0.length }
  let E1 := ents 3 s.toks (p0 ++ pcs.flatten)
  have hE1 : E1 = E0 ++ ents 3 (s.toks + 3 * p0.length) pcs.flatten := ents_app 3 s.toks p0 pcs.flatten
  let t1 := s.toks + 3 * (p0 ++ pcs.flatten).length
  let subs1 := chunkObjs (s.toks + 3 * p0.length) pcs
  let s2 : Shared := { s with heap := pushAll (s.heap.push (dO E1)) subs1, toks := t1 }
  let El := ents 2 t1 pl
  let s3 : Shared := { s with heap := pushAll (s.heap.push (dO (E1 ++ El))) (subs1 ++ [dO El]), toks := t1 + 3 * pl.length }
  have e3 : ({ s with heap := pushAll (s.heap.push (dO (ents 3 s.toks (p0 ++ pcs.flatten) ++ ents 2 (s.toks + 3 * (p0 ++ pcs.flatten).length) pl))) (chunkObjs (s.toks + 3 * p0.length) pcs ++ [dO (ents 2 (s.toks + 3 * (p0 ++ pcs.flatten).length) pl)]), toks := s.toks + 3 * ((p0 ++ pcs.flatten) ++ pl).length } : Shared) = s3 := by
    rw [List.length_append (as := p0 ++ pcs.flatten), Nat.mul_add, ← Nat.add_assoc]
  rw [e3]
  have hE0 : E0 ≠ [] := by
    intro q
    have : E0.length = 0 := by rw [q]; rfl
    rw [hel] at this; omega
  have hE1l : E1.length = (p0 ++ pcs.flatten).length := ents_len ..
  have hEll : El.length = pl.length := ents_len ..
  -- the loop
  refine lead_mono (n := 450 + ((0 + 400 * cs.length) + (13 * p0.length + 2))) ?_ (by omega)
  refine lead_bind (n := (0 + 400 * cs.length) + (13 * p0.length + 2)) (m := 450) (a := (some s.heap.objs.size, l)) (s₁ := s2) (p₁ := q) ?_ ?_
  · refine lead_chunk (s₁ := s1) (p₁ := q) hf (h0c.trans h0l) (main' := some s.heap.objs.size) ?_ ?_
    · unfold flushM
      refine lead_eq (if_neg (by cases c0 with | nil => simp at h0c; omega | cons x l => simp)) ?_
      refine lead_mono (n := 0 + (13 * p0.length + 2)) ?_ (by omega)
      exact lead_bind (m := 0) (lead_subLong h0 (by omega) (by omega) hn hnd0) (lead_pure' _)
    · refine lead_chunks hf hn hsys hc E0 [] s1 rfl hE0 ?_ ?_ ?_
      · show ((E0 ++ ents 3 (s.toks + 3 * p0.length) pcs.flatten).map (·.hash)).Nodup
        rw [← hE1]
        show ((ents 3 s.toks (p0 ++ pcs.flatten)).map (·.hash)).Nodup
        rw [ents_hash]
        exact hndA
      · rw [hel]
        rw [List.length_append] at hz
        omega
      · have e2 : ({ s1 with heap := pushAll (s.heap.push (dO (E0 ++ ents 3 s1.toks pcs.flatten))) ([] ++ chunkObjs s1.toks pcs), toks := s1.toks + 3 * pcs.flatten.length } : Shared) = s2 := by
          show ({ s with heap := pushAll (s.heap.push (dO (E0 ++ ents 3 (s.toks + 3 * p0.length) pcs.flatten))) (chunkObjs (s.toks + 3 * p0.length) pcs), toks := s.toks + 3 * p0.length + 3 * pcs.flatten.length } : Shared) = s2
          rw [← hE1, Nat.add_assoc, ← Nat.mul_add, ← List.length_append]
        rw [e2]
        have := lead_acc (w := w) (n₀ := n₀) (ann := ann) (m := 0) (s := s2) (p := q) (s' := s2) (p' := q) hf (main := some s.heap.objs.size) (ys := []) (r := (some s.heap.objs.size, l)) l [] (by simp only [List.length_nil]; omega) (by rw [List.nil_append]; exact lead_forIn_nil)
        rw [List.append_nil] at this
        exact this
  · have hnd3 : ((E1 ++ El).map (·.hash)).Nodup := by
      rw [List.map_append]
      show ((ents 3 s.toks (p0 ++ pcs.flatten)).map (·.hash) ++ (ents 2 t1 pl).map (·.hash)).Nodup
      rw [ents_hash, ents_hash]
      exact hnd
    have hE1n : E1 ≠ [] := by
      rw [hE1]; simp [hE0]
    have hsub := lead_subShort (s := s2) hl hl1 (show n₀ ≤ (pushAll (s.heap.push (dO E1)) subs1).objs.size by rw [pushAll_size, Heap.size_push]; omega) hndl
    have hfl := lead_flush (s := s2) rfl (by intro q; rw [q] at hll; simp at hll; omega) hE1n hsub hn hsys (show E1.length + El.length ≤ 10000 by omega) (ents_ent _ _ _) hnd3
    refine lead_mono (n := 0 + ((6 * El.length + 6) + (13 * pl.length + 1))) ?_ (by omega)
    refine lead_bind (m := 0) (a := some s.heap.objs.size) (s₁ := s3) (p₁ := q) hfl ?_
    exact lead_pure' _
end
end partHead6
section partHead7
set_option autoImplicit false
abbrev nsE (P : Params) (x : Str) (t : Tok) (v : Value) : DictEntry := ⟨PyData.keyHash P x, .str x t, v⟩
def y11_pre (_ : Params) : Obj := { cls := .type "tuple", data := .seq #[] }
def y12_pre (_ : Params) : Obj := { cls := .none, data := .fields #[] }
def y13_pre (_ : Params) : Obj := { cls := .type "code", data := .fields #[.str "<module>" 182, .str "<module>" 183, .str "/claim/cut.py" 184, .int 1 0, .int 0 0, .int 0 0, .int 0 0, .int 0 0, .ref 11, .bool false, .int 181 0, .ref 12, .none, .none, .none, .none, .int 185 0, .int 1 0, .str "/claim/cut.py" 186] }
def y14_pre (_ : Params) : Obj := { cls := .type "frame", slots := #[some (.ref 13), some (.ref 3), some (.ref 3), none, some (.str "__main__" 164), none, some (.ref 0)] }
def y3_s0 (P : Params) : Obj := { cls := .type "dict", data := .dict #[nsE P "__name__" 165 (.str "cpy313.stringprep" 187), nsE P "__doc__" 166 (.none), nsE P "__package__" 167 (.none), nsE P "__loader__" 168 (.builtin "__main__.__loader__#opaque"), nsE P "__spec__" 169 (.none), nsE P "__annotations__" 170 (.ref 6), nsE P "__builtins__" 171 (.ref 4), nsE P "__file__" 173 (.str "/claim/cut.py" 172), nsE P "__cached__" 174 (.none)] 9 }
def y3_s1 (P : Params) : Obj := { cls := .type "dict", data := .dict #[nsE P "__name__" 165 (.str "cpy313.stringprep" 187), nsE P "__doc__" 166 (.none), nsE P "__package__" 167 (.none), nsE P "__loader__" 168 (.builtin "__main__.__loader__#opaque"), nsE P "__spec__" 169 (.none), nsE P "__annotations__" 170 (.ref 6), nsE P "__builtins__" 171 (.ref 4), nsE P "__file__" 173 (.str "/claim/cut.py" 172), nsE P "__cached__" 174 (.none), nsE P "b1_set" 248 (.ref 22)] 10 }
def y15_s1 (_ : Params) : Obj := { cls := .type "list", data := .seq #[.int 173 189, .int 847 190, .int 6150 191, .int 6155 192, .int 6156 193, .int 6157 194, .int 8203 195, .int 8204 196, .int 8205 197, .int 8288 198, .int 65279 199] }
def y16_s1 (_ : Params) : Obj := { cls := .type "range", data := .fields #[.int 65024 200, .int 65040 201, .int 1 202] }
def y17_s1 (_ : Params) : Obj := { cls := .type "list", data := .seq #[.int 65024 205, .int 65025 206, .int 65026 207, .int 65027 208, .int 65028 209, .int 65029 210, .int 65030 211, .int 65031 212, .int 65032 213, .int 65033 214, .int 65034 215, .int 65035 216, .int 65036 217, .int 65037 218, .int 65038 219, .int 65039 220] 18 }
def y18_s1 (_ : Params) : Obj := { cls := .type "range_iterator", data := .fields #[.int 65040 0, .int 0 0, .int 1 0] }
def y19_s1 (_ : Params) : Obj := { cls := .type "tuple", data := .seq #[] }
def y20_s1 (_ : Params) : Obj := { cls := .type "StopIteration", data := .fields #[.ref 19, .none, .none, .none, .bool false, .none] }
def y21_s1 (_ : Params) : Obj := { cls := .type "list", data := .seq #[.int 173 189, .int 847 190, .int 6150 191, .int 6155 192, .int 6156 193, .int 6157 194, .int 8203 195, .int 8204 196, .int 8205 197, .int 8288 198, .int 65279 199, .int 65024 205, .int 65025 206, .int 65026 207, .int 65027 208, .int 65028 209, .int 65029 210, .int 65030 211, .int 65031 212, .int 65032 213, .int 65033 214, .int 65034 215, .int 65035 216, .int 65036 217, .int 65037 218, .int 65038 219, .int 65039 220] }
def b1Es : Array (Int × Value) := #[(65024, .int 65024 205), (65025, .int 65025 206), (65026, .int 65026 207), (65027, .int 65027 208), (65028, .int 65028 209), (65029, .int 65029 210), (6150, .int 6150 191), (65030, .int 65030 211), (65031, .int 65031 212), (65032, .int 65032 213), (65033, .int 65033 214), (6155, .int 6155 192), (6156, .int 6156 193), (6157, .int 6157 194), (8203, .int 8203 195), (8204, .int 8204 196), (8205, .int 8205 197), (65034, .int 65034 215), (65035, .int 65035 216), (65036, .int 65036 217), (65037, .int 65037 218), (65038, .int 65038 219), (65039, .int 65039 220), (173, .int 173 189), (847, .int 847 190), (8288, .int 8288 198), (65279, .int 65279 199)]
def y22_s1 (P : Params) : Obj := { cls := .type "set", data := .set b1Es 29 { mask := 127, place := #[0, 1, 2, 3, 4, 5, 6, 7, 8, 9, 10, 11, 12, 13, 14, 15, 16, 17, 18, 19, 20, 21, 22, 45, 79, 96, 127], dummies := #[], finger := 0, led := !P.followText "set-order", moves := 2, plain := true } }
def y23_s1 (_ : Params) : Obj := { cls := .type "list_iterator", data := .fields #[.none, .int 27 0] }
def y24_s1 (_ : Params) : Obj := { cls := .type "tuple", data := .seq #[] }
def y25_s1 (_ : Params) : Obj := { cls := .type "StopIteration", data := .fields #[.ref 24, .none, .none, .none, .bool false, .none] }
def y3_s2 (P : Params) : Obj := { cls := .type "dict", data := .dict #[nsE P "__name__" 165 (.str "cpy313.stringprep" 187), nsE P "__doc__" 166 (.none), nsE P "__package__" 167 (.none), nsE P "__loader__" 168 (.builtin "__main__.__loader__#opaque"), nsE P "__spec__" 169 (.none), nsE P "__annotations__" 170 (.ref 6), nsE P "__builtins__" 171 (.ref 4), nsE P "__file__" 173 (.str "/claim/cut.py" 172), nsE P "__cached__" 174 (.none), nsE P "b1_set" 248 (.ref 22), nsE P "in_table_b1" 255 (.ref 32)] 11 }
def y12_s2 (_ : Params) : Obj := { cls := .none, data := .fields #[.int 3 0, .int 0 0, .ref 31] }
def y26_s2 (_ : Params) : Obj := { cls := .type "tuple", data := .seq #[] }
def y27_s2 (_ : Params) : Obj := { cls := .none, data := .fields #[] }
def y28_s2 (_ : Params) : Obj := { cls := .type "tuple", data := .seq #[.str "code" 252] }
def y29_s2 (_ : Params) : Obj := { cls := .type "tuple", data := .seq #[] }
def y30_s2 (_ : Params) : Obj := { cls := .none, data := .func { name := (D 2).name, qualname := (D 2).name, params := (D 2).params, body := .stmts (D 2).body, scope := (D 2).scope, globals := 0, closure := [], defaults := .none, kwdefaults := .none } }
def y31_s2 (_ : Params) : Obj := { cls := .type "code", data := .fields #[.str "in_table_b1" 249, .str "in_table_b1" 250, .str "/claim/cut.py" 251, .int 3 0, .int 1 0, .int 0 0, .int 0 0, .int 3 0, .ref 26, .bool true, .int 181 0, .ref 27, .none, .ref 28, .ref 29, .ref 30, .int 253 0, .int 3 0, .str "/claim/cut.py" 254] }
def y32_s2 (_ : Params) : Obj := { cls := .type "function", data := .func { name := (D 2).name, qualname := (D 2).name, params := (D 2).params, body := .stmts (D 2).body, scope := (D 2).scope, globals := 3, closure := [], defaults := .none, kwdefaults := .none, pyModule := .str "cpy313.stringprep" 187, code := .ref 31 } }
noncomputable def objs_pre (P : Params) : List Obj := [boot_o_0 P, boot_o_1 P, boot_o_2 P, boot_o_3 P, boot_o_4 P, boot_o_5 P, boot_o_6 P, boot_o_7 P, boot_o_8 P, boot_o_9 P, boot_o_10 P, y11_pre P, y12_pre P, y13_pre P, y14_pre P]
noncomputable def objs_s0 (P : Params) : List Obj := [boot_o_0 P, boot_o_1 P, boot_o_2 P, y3_s0 P, boot_o_4 P, boot_o_5 P, boot_o_6 P, boot_o_7 P, boot_o_8 P, boot_o_9 P, boot_o_10 P, y11_pre P, y12_pre P, y13_pre P, y14_pre P]
noncomputable def objs_s1 (P : Params) : List Obj := [boot_o_0 P, boot_o_1 P, boot_o_2 P, y3_s1 P, boot_o_4 P, boot_o_5 P, boot_o_6 P, boot_o_7 P, boot_o_8 P, boot_o_9 P, boot_o_10 P, y11_pre P, y12_pre P, y13_pre P, y14_pre P, y15_s1 P, y16_s1 P, y17_s1 P, y18_s1 P, y19_s1 P, y20_s1 P, y21_s1 P, y22_s1 P, y23_s1 P, y24_s1 P, y25_s1 P]
noncomputable def objs_s2 (P : Params) : List Obj := [boot_o_0 P, boot_o_1 P, boot_o_2 P, y3_s2 P, boot_o_4 P, boot_o_5 P, boot_o_6 P, boot_o_7 P, boot_o_8 P, boot_o_9 P, boot_o_10 P, y11_pre P, y12_s2 P, y13_pre P, y14_pre P, y15_s1 P, y16_s1 P, y17_s1 P, y18_s1 P, y19_s1 P, y20_s1 P, y21_s1 P, y22_s1 P, y23_s1 P, y24_s1 P, y25_s1 P, y26_s2 P, y27_s2 P, y28_s2 P, y29_s2 P, y30_s2 P, y31_s2 P, y32_s2 P]
def y3_s3 (P : Params) : Obj := { cls := .type "dict", data := .dict #[nsE P "__name__" 165 (.str "cpy313.stringprep" 187), nsE P "__doc__" 166 (.none), nsE P "__package__" 167 (.none), nsE P "__loader__" 168 (.builtin "__main__.__loader__#opaque"), nsE P "__spec__" 169 (.none), nsE P "__annotations__" 170 (.ref 6), nsE P "__builtins__" 171 (.ref 4), nsE P "__file__" 173 (.str "/claim/cut.py" 172), nsE P "__cached__" 174 (.none), nsE P "b1_set" 248 (.ref 22), nsE P "in_table_b1" 255 (.ref 32), nsE P "b3_exceptions" 2206 (.ref 33)] 12 }
noncomputable def objs_s3 (P : Params) (F : Nat → Obj) : List Obj := [boot_o_0 P, boot_o_1 P, boot_o_2 P, y3_s3 P, boot_o_4 P, boot_o_5 P, boot_o_6 P, boot_o_7 P, boot_o_8 P, boot_o_9 P, boot_o_10 P, y11_pre P, y12_s2 P, y13_pre P, y14_pre P, y15_s1 P, y16_s1 P, y17_s1 P, y18_s1 P, y19_s1 P, y20_s1 P, y21_s1 P, y22_s1 P, y23_s1 P, y24_s1 P, y25_s1 P, y26_s2 P, y27_s2 P, y28_s2 P, y29_s2 P, y30_s2 P, y31_s2 P, y32_s2 P] ++ (List.range 39).map F

def stt (L : List Obj) (tk : Nat) (os : OsState) : Shared := ⟨⟨L.toArray, {}⟩, #[], {}, tk, os⟩
def benv : Env := { scope := P0.main.scope, locals := mainNs, globals := mainNs, cells := [], code := .ref 13, frame := some 14 }
def bcode : Code := .body P0.main.body benv
abbrev annV : Option Value := some (.ref 6)
abbrev frB : List Frame := [topFrame default]
abbrev stm (i : Nat) : List Stmt := (P0.main.body.drop i).take 1
end partHead7
section partHead8
set_option autoImplicit false
def litAll : List (Option Expr) → List Expr → Option (List (Int × Str))
  | [], [] => some []
  | some (.Constant (.int k) _ _) :: ks, .Constant (.str x) _ _ :: vs => match litAll ks vs with
    | some ps => some ((k, x) :: ps)
    | none => none
  | _, _ => none
def treesOf (env : Env) (q : Pos) : List (Option Expr) → List Expr → List Pr
  | some k :: ks, v :: vs => (eval k env, do let x ← eval v env; standAt q; pure x) :: treesOf env q ks vs
  | _, _ => []
section
variable {w : World} {n₀ : Nat} {ann : Option Value} {α β σ γ : Type} {n m : Nat} {s s' s₁ : Shared} {p p' p₁ q : Pos} {a : α} {b : β} {x : Sem α}
theorem lead_intc (env : Env) (k : Int) (i : Nat) (pp : Pos) : Lead w n₀ ann 1 (eval (.Constant (.int k) i pp) env) s q (.int k s.toks) { s with toks := s.toks + 1 } q := by
  show Lead w n₀ ann 1 (do return Value.int k (← PySem.fresh) : Sem Value) s q _ _ q
  exact lead_bind (n := 1) (m := 0) (lead_fresh (n := 0) (lead_pure _)) (lead_pure' _)
theorem lead_strc (env : Env) (k : Str) (i : Nat) (pp : Pos) : Lead w n₀ ann 2 (do let x ← eval (.Constant (.str k) i pp) env; standAt q; pure x) s q (.str k s.toks) { s with toks := s.toks + 1 } q := by
  refine lead_bind (n := 1) (m := 1) (a := .str k s.toks) (s₁ := { s with toks := s.toks + 1 }) (p₁ := q) ?_ ?_
  · show Lead w n₀ ann 1 (do return Value.str k (← PySem.fresh) : Sem Value) s q _ _ q
    exact lead_bind (n := 1) (m := 0) (lead_fresh (n := 0) (lead_pure _)) (lead_pure' _)
  · exact lead_bind (n := 1) (m := 0) (lead_at (n := 0) (lead_pure _)) (lead_pure' _)
theorem rds_of (env : Env) : ∀ (ks : List (Option Expr)) (vs : List Expr) (ps : List (Int × Str)), litAll ks vs = some ps →
    (evalEachOpt ks env).zip ((evalEach vs env).map fun v => (do let x ← v; standAt q; pure x : Sem Value)) = (treesOf env q ks vs).map so ∧ Rds w n₀ ann q (treesOf env q ks vs) ps
  | [], [], ps, h => by
    cases h
    exact ⟨rfl, .nil⟩
  | [], _ :: _, ps, h => by cases h
  | none :: _, _, ps, h => by cases h
  | some e :: ks, [], ps, h => by
    cases e <;> first | cases h | skip
    rename_i c _ _
    cases c <;> cases h
  | some e :: ks, v :: vs, ps, h => by
    cases e <;> first | cases h | skip
    rename_i c i1 p1
    cases c <;> first | cases h | skip
    rename_i k
    cases v <;> first | cases h | skip
    rename_i c2 i2 p2
    cases c2 <;> first | cases h | skip
    rename_i x
    unfold litAll at h
    cases hq : litAll ks vs with
    | none => rw [hq] at h; cases h
    | some qs =>
      rw [hq] at h
      cases h
      obtain ⟨h1, h2⟩ := rds_of env ks vs qs hq
      refine ⟨?_, .cons (fun s => lead_intc env k i1 p1) (fun s => lead_strc env x i2 p2) h2⟩
      show (some (eval _ env), _) :: _ = (some (eval _ env), _) :: _
      rw [← h1]
      rfl
/-- the chunks -/
def chunk17 {τ : Type} : Nat → List τ → List (List τ)
  | 0, _ => []
  | n + 1, l => l.take 17 :: chunk17 n (l.drop 17)
theorem chunk17_length {τ : Type} : ∀ (n : Nat) (l : List τ), (chunk17 n l).length = n
  | 0, _ => rfl
  | n + 1, l => by unfold chunk17; rw [List.length_cons, chunk17_length n]
theorem chunk17_flat {τ : Type} : ∀ (n : Nat) (l : List τ), (chunk17 n l).flatten = l.take (17 * n)
  | 0, _ => rfl
  | n + 1, l => by
    unfold chunk17
    rw [List.flatten_cons, chunk17_flat n, Nat.mul_succ, Nat.add_comm, List.take_add]
theorem rds_take {ys : List Pr} {ps : List (Int × Str)} (h : Rds w n₀ ann q ys ps) : ∀ k, Rds w n₀ ann q (ys.take k) (ps.take k) := by
  induction h with
  | nil => intro k; simp; exact .nil
  | cons a b _ ih =>
    intro k
    cases k with
    | zero => exact .nil
    | succ k => exact .cons a b (ih k)
theorem rds_drop {ys : List Pr} {ps : List (Int × Str)} (h : Rds w n₀ ann q ys ps) : ∀ k, Rds w n₀ ann q (ys.drop k) (ps.drop k) := by
  induction h with
  | nil => intro k; simp; exact .nil
  | cons a b r ih =>
    intro k
    cases k with
    | zero => exact .cons a b r
    | succ k => exact ih k
theorem chunks_of : ∀ (n : Nat) {ys : List Pr} {ps : List (Int × Str)}, Rds w n₀ ann q ys ps → 17 * n ≤ ps.length → Chunks w n₀ ann q (chunk17 n ys) (chunk17 n ps)
  | 0, _, _, _, _ => .nil
  | n + 1, ys, ps, h, hl => .cons (rds_take h 17) (by rw [List.length_take]; omega) (chunks_of n (rds_drop h 17) (by rw [List.length_drop]; omega))
/-- all that the display leaves -/
def mainE (t n : Nat) (ps : List (Int × Str)) : List DictEntry := ents 3 t (ps.take (17 * (n + 1))) ++ ents 2 (t + 3 * (17 * (n + 1))) (ps.drop (17 * (n + 1)))
def subsE (t n : Nat) (ps : List (Int × Str)) : List Obj := chunkObjs (t + 51) (chunk17 n (ps.drop 17)) ++ [dO (ents 2 (t + 3 * (17 * (n + 1))) (ps.drop (17 * (n + 1))))]
theorem lead_dict {ts : List Pr} {ps : List (Int × Str)} (n : Nat) (h : Rds w n₀ ann q ts ps) (h1 : 17 * (n + 1) < ps.length) (h2 : ps.length ≤ 17 * (n + 1) + 15) (hn : n₀ ≤ s.heap.objs.size) (hsys : ∀ a, n₀ ≤ a → (a == sysModules) = false)
    (hnd : (ps.map fun y => hashInt y.1).Nodup) (hz : ps.length ≤ 10000) :
    Lead w n₀ ann (1000 + 400 * n) (dictDisplay (ts.map so)) s q (.ref s.heap.objs.size) { s with heap := pushAll (s.heap.push (dO (mainE s.toks n ps))) (subsE s.toks n ps), toks := s.toks + 3 * ps.length } q := by
  have hl := h.length
  have split : ∀ {τ : Type} (l : List τ), l = l.take 17 ++ ((chunk17 n (l.drop 17)).flatten ++ l.drop (17 * (n + 1))) := by
    intro τ l
    rw [chunk17_flat, show 17 * (n + 1) = 17 + 17 * n by omega, ← List.drop_drop, List.take_append_drop, List.take_append_drop]
  have pre : ∀ {τ : Type} (l : List τ), l.take 17 ++ (chunk17 n (l.drop 17)).flatten = l.take (17 * (n + 1)) := by
    intro τ l
    rw [chunk17_flat, show 17 * (n + 1) = 17 + 17 * n by omega, List.take_add]
  have key := lead_display (s := s) (rds_take h 17) (by rw [List.length_take]; omega) (chunks_of n (rds_drop h 17) (by rw [List.length_drop]; omega)) (rds_drop h (17 * (n + 1))) (by rw [List.length_drop]; omega) (by rw [List.length_drop]; omega) hn hsys
    (by rw [pre, List.take_append_drop]; exact hnd) (by rw [pre, List.take_append_drop]; exact hz)
  rw [← split ts, chunk17_length, pre, List.take_append_drop, List.length_take, List.length_take, Nat.min_eq_left (by omega), Nat.min_eq_left (by omega)] at key
  exact key
end
end partHead8
section partHead9
set_option autoImplicit false
section
variable {w : World} {n₀ : Nat} {ann : Option Value} {α β σ γ : Type} {n m : Nat} {s s' s₁ : Shared} {p p' p₁ q : Pos} {a : α} {b : β} {x : Sem α}
def nameHash (w : World) (name : Str) : Int := if name.cps.isEmpty then 0 else reduceHash (w.params.strHash name.cps)
theorem lead_nsSet {name : Str} {v : Value} {o : Obj} {es : Array DictEntry} {ep : Nat} (ho : s.heap.get? mainNs = some o) (hd : o.data = .dict es ep) (hr : aRefKeyMayBeTheName name es = false) :
    Lead w n₀ ann 4 (nsSet mainNs name v) s p () { s with heap := s.heap.update mainNs (Obj.putName name (nameHash w name) (.str name s.toks) v), toks := s.toks + 1 } p := by
  unfold nsSet
  refine lead_bind (n := 1) (m := 3) (a := nameHash w name) (s₁ := s) (p₁ := p) ?_ ?_
  · unfold strHash
    exact lead_bind (n := 1) (m := 0) (lead_ask (n := 0) (lead_pure _)) (lead_pure' _)
  refine lead_bind (n := 1) (m := 2) (a := .str name s.toks) (s₁ := { s with toks := s.toks + 1 }) (p₁ := p) ?_ ?_
  · unfold mkText
    exact lead_bind (n := 1) (m := 0) (lead_fresh (n := 0) (lead_pure _)) (lead_pure' _)
  refine lead_bind (n := 1) (m := 1) (lead_load (n := 0) (s := { s with toks := s.toks + 1 }) ho (lead_pure _)) ?_
  rw [hd]
  dsimp only
  refine lead_eq (if_neg (by rw [hr]; decide)) ?_
  exact lead_update (n := 0) (s := { s with toks := s.toks + 1 }) ho (by rw [beq_self_eq_true, Bool.or_true]) (lead_pure _)
theorem lead_assign {env : Env} {name : Str} {np ap : Pos} {value : Expr} {v : Value} {k : Nat} {o : Obj} {es : Array DictEntry} {ep : Nat} (hs : swapsWith value (some (.Name name np)) ap.line env = pure false)
    (hv : Lead w n₀ ann k (eval value env) s ap v s₁ p₁) (hst : ∀ v, storeName env name v = nsSet mainNs name v) (ho : s₁.heap.get? mainNs = some o) (hd : o.data = .dict es ep) (hr : aRefKeyMayBeTheName name es = false) :
    Lead w n₀ ann (8 + k) (exec (.Assign [.Name name np] value ap) env) s p .next { s₁ with heap := s₁.heap.update mainNs (Obj.putName name (nameHash w name) (.str name s₁.toks) v), toks := s₁.toks + 1 } np := by
  rw [exec_Assign_Name env name np value ap hs]
  refine lead_mono (n := (7 + k) + 1) ?_ (by omega)
  refine lead_bind (n := 1) (m := 7 + k) (lead_at (n := 0) (lead_pure _)) ?_
  refine lead_bind (n := k) (m := 7) hv ?_
  refine lead_bind (n := 1) (m := 6) (lead_at (n := 0) (lead_pure _)) ?_
  refine lead_bind (n := 6) (m := 0) (a := ()) (s₁ := { s₁ with heap := s₁.heap.update mainNs (Obj.putName name (nameHash w name) (.str name s₁.toks) v), toks := s₁.toks + 1 }) (p₁ := np) ?_ (lead_pure' _)
  unfold bindName
  refine lead_bind (n := 1) (m := 5) (lead_holding (lead_point (n := 0) (lead_pure _))) ?_
  rw [hst]
  refine lead_bind (n := 4) (m := 1) (lead_nsSet ho hd hr) ?_
  exact lead_point (n := 0) (lead_pure _)
end
theorem pushAll_list : ∀ (os : List Obj) (h : Heap), pushAll h os = ⟨(h.objs.toList ++ os).toArray, h.life⟩
  | [], h => by rw [List.append_nil]; rfl
  | o :: os, h => by
    show pushAll (h.push o) os = _
    rw [pushAll_list os (h.push o)]
    show (⟨((h.objs.push o).toList ++ os).toArray, h.life⟩ : Heap) = _
    rw [Array.toList_push, List.append_assoc]
    rfl
def ks3 : List (Option Expr) := match P0.main.body[3]? with | some (Stmt.Assign _ (Expr.Dict ks _ _) _) => ks | _ => []
def vs3 : List Expr := match P0.main.body[3]? with | some (Stmt.Assign _ (Expr.Dict _ vs _) _) => vs | _ => []
def b3P : List (Int × Str) := (litAll ks3 vs3).getD []
abbrev q3 : Pos := match P0.main.body[3]? with | some (Stmt.Assign _ (Expr.Dict _ _ q) _) => q | _ => default
abbrev np3 : Pos := ⟨5, 0, 5, 13⟩
abbrev ap3 : Pos := match P0.main.body[3]? with | some (Stmt.Assign _ _ q) => q | _ => default
theorem body3 : P0.main.body.drop 3 = Stmt.Assign [.Name "b3_exceptions" np3] (.Dict ks3 vs3 q3) ap3 :: P0.main.body.drop 4 := by kernel_rfl
theorem lit3 : litAll ks3 vs3 = some b3P := by kernel_rfl
theorem b3P_len : b3P.length = 650 := by kernel_rfl
theorem b3P_list : b3L = b3P.map fun y => (PyData.int y.1, PyData.str y.2) := by kernel_rfl
def rising : List Int → Bool
  | a :: b :: r => decide (a < b) && rising (b :: r)
  | _ => true
theorem rising_nodup : ∀ (l : List Int), rising l = true → l.Pairwise (· < ·)
  | [], _ => .nil
  | [a], _ => List.pairwise_singleton ..
  | a :: b :: r, h => by
    unfold rising at h
    rw [Bool.and_eq_true, decide_eq_true_eq] at h
    have ih := rising_nodup (b :: r) h.2
    refine .cons (fun x hx => ?_) ih
    rcases List.mem_cons.mp hx with rfl | hx
    · exact h.1
    · exact Int.lt_trans h.1 (List.rel_of_pairwise_cons ih hx)
theorem b3P_rise : rising (b3P.map fun y => hashInt y.1) = true := by kernel_rfl
theorem b3P_nodup : (b3P.map fun y => hashInt y.1).Nodup := (rising_nodup _ b3P_rise).imp fun h q => by rw [q] at h; exact Int.lt_irrefl _ h
end partHead9
section partHead10
set_option autoImplicit false
noncomputable def F3 (i : Nat) : Obj := (dO (mainE 256 37 b3P) :: subsE 256 37 b3P).getD i default
theorem chunkObjs_len : ∀ (t : Nat) (l : List (List (Int × Str))), (chunkObjs t l).length = l.length
  | _, [] => rfl
  | t, c :: r => by unfold chunkObjs; rw [List.length_cons, List.length_cons, chunkObjs_len]
theorem F3_list : dO (mainE 256 37 b3P) :: subsE 256 37 b3P = (List.range 39).map F3 := by
  have hl : (dO (mainE 256 37 b3P) :: subsE 256 37 b3P).length = 39 := by
    unfold subsE
    rw [List.length_cons, List.length_append, chunkObjs_len, chunk17_length]
    rfl
  refine List.ext_getElem? fun i => ?_
  rw [List.getElem?_map]
  rcases Nat.lt_or_ge i 39 with h | h
  · rw [List.getElem?_range h]
    show _ = some ((dO (mainE 256 37 b3P) :: subsE 256 37 b3P).getD i default)
    rw [List.getD_eq_getElem?_getD, List.getElem?_eq_getElem (by rw [hl]; exact h)]
    rfl
  · rw [List.getElem?_eq_none (by rw [hl]; exact h), List.getElem?_eq_none (by rw [List.length_range]; exact h)]
    rfl
theorem put3 (w : World) : Obj.putName "b3_exceptions" (nameHash w "b3_exceptions") (.str "b3_exceptions" 2206) (.ref 33) (y3_s2 w.params) = y3_s3 w.params := by kernel_rfl
theorem update_list (L : List Obj) (d : Addr) (f : Obj → Obj) (life : Life) : (⟨L.toArray, life⟩ : Heap).update d f = ⟨(L.modify d f).toArray, life⟩ := by
  simp only [Heap.update, Heap.mk.injEq, and_true]
  apply Array.ext_getElem?
  intro i
  rw [Array.getElem?_modify, List.getElem?_toArray, List.getElem?_toArray, List.getElem?_modify]
  by_cases h : d = i
  · simp [h]
  · simp [h]
theorem get3 (P : Params) (os : OsState) : (stt (objs_s2 P) 256 os).heap.get? mainNs = some (y3_s2 P) := rfl
theorem dict3 (P : Params) : ∃ es ep, (y3_s2 P).data = .dict es ep ∧ aRefKeyMayBeTheName "b3_exceptions" es = false := ⟨_, _, rfl, by kernel_rfl⟩
theorem kind3 : benv.kindOf "b3_exceptions" = some .local := by kernel_rfl
theorem dict_run (w : World) (os : OsState) : Lead w 11 annV (8 + (15800 + 1)) (exec (.Assign [.Name "b3_exceptions" np3] (.Dict ks3 vs3 q3) ap3) benv) (stt (objs_s2 w.params) 256 os) ⟨3, 0, 4, 30⟩ .next (stt (objs_s3 w.params F3) 2207 os) np3 := by
  obtain ⟨es, ep, hd, hr⟩ := dict3 w.params
  obtain ⟨h1, h2⟩ := rds_of (w := w) (n₀ := 11) (ann := annV) (q := q3) benv ks3 vs3 b3P lit3
  let S : Shared := stt (objs_s2 w.params) 256 os
  have hv : Lead w 11 annV (15800 + 1) (eval (.Dict ks3 vs3 q3) benv) S ap3 (.ref 33) { S with heap := pushAll (S.heap.push (dO (mainE 256 37 b3P))) (subsE 256 37 b3P), toks := 256 + 3 * b3P.length } q3 := by
    show Lead w 11 annV (15800 + 1) (do standAt q3; dictDisplay ((evalEachOpt ks3 benv).zip ((evalEach vs3 benv).map fun v => (do let x ← v; standAt q3; pure x : Sem Value)))) S ap3 _ _ q3
    rw [h1]
    refine lead_bind (n := 1) (m := 15800) (lead_at (n := 0) (lead_pure _)) ?_
    exact lead_dict (s := S) 37 h2 (by rw [b3P_len]; decide) (by rw [b3P_len]; decide) (show 11 ≤ 33 by decide) (fun a h => beq_eq_false_iff_ne.mpr fun q => by rw [q] at h; exact absurd h (by decide)) b3P_nodup (by rw [b3P_len]; decide)
  have key := lead_assign (w := w) (n₀ := 11) (ann := annV) (s := S) (p := ⟨3, 0, 4, 30⟩) (env := benv) (name := "b3_exceptions") (np := np3) (ap := ap3) rfl hv (fun v => storeName_local kind3 rfl v) (pushAll_get _ _ (Heap.get?_push_of_some _ (get3 w.params os))) hd hr
  have e : ({ S with heap := (pushAll (S.heap.push (dO (mainE 256 37 b3P))) (subsE 256 37 b3P)).update mainNs (Obj.putName "b3_exceptions" (nameHash w "b3_exceptions") (.str "b3_exceptions" (256 + 3 * b3P.length)) (.ref 33)), toks := 256 + 3 * b3P.length + 1 } : Shared) = stt (objs_s3 w.params F3) 2207 os := by
    rw [b3P_len]
    show ({ S with heap := (pushAll (S.heap.push (dO (mainE 256 37 b3P))) (subsE 256 37 b3P)).update mainNs (Obj.putName "b3_exceptions" (nameHash w "b3_exceptions") (.str "b3_exceptions" 2206) (.ref 33)), toks := 2207 } : Shared) = _
    have hh : (pushAll (S.heap.push (dO (mainE 256 37 b3P))) (subsE 256 37 b3P)) = ⟨(objs_s2 w.params ++ (dO (mainE 256 37 b3P) :: subsE 256 37 b3P)).toArray, {}⟩ := by
      rw [pushAll_list]
      show (⟨((objs_s2 w.params).toArray.push _).toList ++ _ |>.toArray, {}⟩ : Heap) = _
      rw [Array.toList_push, List.append_assoc]
      rfl
    rw [hh, update_list, F3_list]
    have hm : (objs_s2 w.params ++ (List.range 39).map F3).modify mainNs (Obj.putName "b3_exceptions" (nameHash w "b3_exceptions") (.str "b3_exceptions" 2206) (.ref 33)) = objs_s3 w.params F3 := by
      show [boot_o_0 w.params, boot_o_1 w.params, boot_o_2 w.params, Obj.putName "b3_exceptions" (nameHash w "b3_exceptions") (.str "b3_exceptions" 2206) (.ref 33) (y3_s2 w.params)] ++ ((objs_s2 w.params).drop 4 ++ (List.range 39).map F3) = _
      rw [put3]
      rfl
    rw [hm]
    rfl
  rw [← e]
  exact key
end partHead10
section partHead11
set_option autoImplicit false
def qv : Program := view P0 [2, 4, 6, 7, 9, 10, 11, 12, 13, 15, 16, 17, 18, 19, 20, 21, 22, 23, 24]
abbrev loosev : List Str := ["b1_set", "b3_exceptions"]
abbrev Xtv : Shared → Bool := fun _ => true
abbrev Yfv (s : Shared) : Bool × Option Value × Option Value × Option Obj × Option Obj := (s.heap.isNs mainGlobals, s.heap.nsMap mainGlobals "b1_set", s.heap.nsMap mainGlobals "b3_exceptions", s.heap.objs[22]?, s.heap.objs[33]?)
noncomputable abbrev Yav (w : World) : Bool × Option Value × Option Value × Option Obj × Option Obj := (true, some (.ref 22), some (.ref 33), some (y22_s1 w.params), some (F3 0))
noncomputable abbrev S0 (w : World) (os : OsState) : Shared := ⟨boot_heap w.params, #[], {}, 181, os⟩
theorem t_pre (w : World) (os : OsState) : topGo treeTable P0 w 11 annV 12 (S0 w os) (topStub P0) = some (stt (objs_pre w.params) 187 os, ⟨denote treeTable bcode, bcode, default, frB⟩) := by kernel_rfl
theorem t_block (w : World) (os : OsState) : segRun treeTable P0 w 11 annV 1 1 (stt (objs_pre w.params) 187 os) (blockOf P0.main.body benv bcode default frB) = some (.next, stt (objs_pre w.params) 187 os, bcode, default) := by kernel_rfl
theorem t_s0 (w : World) (os : OsState) : segRun treeTable P0 w 11 annV 1 10 (stt (objs_pre w.params) 187 os) (piecesOf (stm 0) benv bcode default frB) = some (.next, stt (objs_s0 w.params) 189 os, bcode, ⟨1, 0, 1, 8⟩) := by kernel_rfl
theorem t_s2 (w : World) (os : OsState) : segRun treeTable P0 w 11 annV 1 30 (stt (objs_s1 w.params) 249 os) (piecesOf (stm 2) benv bcode ⟨2, 0, 2, 6⟩ frB) = some (.next, stt (objs_s2 w.params) 256 os, bcode, ⟨3, 0, 4, 30⟩) := by kernel_rfl
abbrev S1P (os : OsState) (w : World) : Prop := PySem.W.Fast.tw14374325043358763698 PySem.W.Fast.tw14364793385576792824 P0 w 11 annV 1 999 (stt (objs_s0 w.params) 189 os) ⟨(PySem.W.Fast.tw12563942051412417395 (stm 1) benv).wrap doneF deadEnd id id, bcode, ⟨1, 0, 1, 8⟩, frB⟩ = some (.next, stt (objs_s1 w.params) 249 os, bcode, ⟨2, 0, 2, 6⟩)
theorem t_s1_ff (os : OsState) (w : World) : S1P os ((w.withFollow "set-order" false).withFollow "special-get-raises" false) := by
  with_unfolding_all kernel_rfl
theorem t_s1_ft (os : OsState) (w : World) : S1P os ((w.withFollow "set-order" false).withFollow "special-get-raises" true) := by
  with_unfolding_all kernel_rfl
theorem t_s1_tf (os : OsState) (w : World) : S1P os ((w.withFollow "set-order" true).withFollow "special-get-raises" false) := by
  with_unfolding_all kernel_rfl
theorem t_s1_tt (os : OsState) (w : World) : S1P os ((w.withFollow "set-order" true).withFollow "special-get-raises" true) := by
  with_unfolding_all kernel_rfl
end partHead11
section partHead12
set_option autoImplicit false
theorem t_s1' (os : OsState) : ∀ w : World, S1P os w :=
  byRow2 "special-get-raises" (P := S1P os) (byRow2 "set-order" (P := fun w => S1P os (w.withFollow "special-get-raises" false)) (t_s1_ff os) (t_s1_tf os)) (byRow2 "set-order" (P := fun w => S1P os (w.withFollow "special-get-raises" true)) (t_s1_ft os) (t_s1_tt os))
theorem t_s1 (w : World) (os : OsState) : segRun treeTable P0 w 11 annV 1 999 (stt (objs_s0 w.params) 189 os) (piecesOf (stm 1) benv bcode ⟨1, 0, 1, 8⟩ frB) = some (.next, stt (objs_s1 w.params) 249 os, bcode, ⟨2, 0, 2, 6⟩) := by
  show segRun treeTable P0 w 11 annV 1 999 (stt (objs_s0 w.params) 189 os) ⟨(execs (stm 1) benv).wrap doneF deadEnd id id, bcode, ⟨1, 0, 1, 8⟩, frB⟩ = _
  rw [PySem.W.Fast.te14374325043358763698, PySem.W.Fast.te14364793385576792824, PySem.W.Fast.te12563942051412417395]
  exact t_s1' os w
noncomputable abbrev A3run (w : World) (os : OsState) (F : Nat → Obj) : Option Shared := topRun treeTable P0 w 11 annV 700 (stt (objs_s3 w.params F) 2207 os) (restOf (P0.main.body.drop 4) benv bcode ⟨5, 0, 5, 13⟩ frB)
theorem a3_yf (w : World) (os : OsState) (F : Nat → Obj) : (A3run w os F).map Yfv = some (true, some (.ref 22), some (.ref 33), some (y22_s1 w.params), some (F 0)) := by
  show (topRun treeTable P0 w 11 annV 700 (stt (objs_s3 w.params F) 2207 os) ⟨(execs (P0.main.body.drop 4) benv).wrap doneF (leaveH benv) id id, bcode, ⟨5, 0, 5, 13⟩, frB⟩).map Yfv = _
  rw [PySem.W.Fast.te14082659384304107361, PySem.W.Fast.te14364793385576792824, PySem.W.Fast.te12563942051412417395]
  kernel_rfl
theorem a3_ok (w : World) (os : OsState) (F : Nat → Obj) : (A3run w os F).map (fun s => staticsOk (importedModules P0.main.body) (boot_heap w.params) s.heap && namesBound P0 s.heap && gensDone s && laidKept (boot_heap w.params) s.heap) = some true := by
  show (topRun treeTable P0 w 11 annV 700 (stt (objs_s3 w.params F) 2207 os) ⟨(execs (P0.main.body.drop 4) benv).wrap doneF (leaveH benv) id id, bcode, ⟨5, 0, 5, 13⟩, frB⟩).map _ = _
  rw [PySem.W.Fast.te14082659384304107361, PySem.W.Fast.te14364793385576792824, PySem.W.Fast.te12563942051412417395]
  kernel_rfl
theorem a3_seen (w : World) (os : OsState) (F : Nat → Obj) : (A3run w os F).map (fun s => openSeen qv loosev (importedModules P0.main.body) Xtv true s) = some (openGood qv loosev) := by
  show (topRun treeTable P0 w 11 annV 700 (stt (objs_s3 w.params F) 2207 os) ⟨(execs (P0.main.body.drop 4) benv).wrap doneF (leaveH benv) id id, bcode, ⟨5, 0, 5, 13⟩, frB⟩).map _ = _
  rw [PySem.W.Fast.te14082659384304107361, PySem.W.Fast.te14364793385576792824, PySem.W.Fast.te12563942051412417395, PySem.W.Fast.te4187177175401517315]
  kernel_rfl
theorem body0 : P0.main.body = stm 0 ++ (stm 1 ++ (stm 2 ++ P0.main.body.drop 3)) := by kernel_rfl
/-- the whole top -/
theorem top_all (w : World) (os : OsState) : ∃ s, topRun treeTable P0 w 11 annV 20000 (S0 w os) (topStub P0) = some s ∧
    (staticsOk (importedModules P0.main.body) (boot_heap w.params) s.heap && namesBound P0 s.heap && gensDone s && laidKept (boot_heap w.params) s.heap) = true ∧
    openSeen qv loosev (importedModules P0.main.body) Xtv true s = openGood qv loosev ∧ Yfv s = Yav w := by
  obtain ⟨s, hs, e1⟩ := Option.map_eq_some_iff.mp (a3_ok w os F3)
  have e2 := a3_seen w os F3
  have e3 := a3_yf w os F3
  rw [hs] at e2 e3
  refine ⟨s, ?_, e1, Option.some.inj e2, Option.some.inj e3⟩
  have k4 : topRun treeTable P0 w 11 annV ((8 + (15800 + 1)) + 700) (stt (objs_s2 w.params) 256 os) (restOf (P0.main.body.drop 3) benv bcode ⟨3, 0, 4, 30⟩ frB) = some s := by
    have hs' : topRun treeTable P0 w 11 annV 700 (stt (objs_s3 w.params F3) 2207 os) (restOf (P0.main.body.drop 4) benv bcode ⟨5, 0, 5, 13⟩ frB) = some s := hs
    rw [← table_eq_tree] at hs' ⊢
    rw [body3]
    unfold PySem.W.restOf at hs' ⊢
    rw [execs_cons_wrap]
    exact dict_run w os (fun f => match f with | .next => (execs (P0.main.body.drop 4) benv).wrap doneF (leaveH benv) id id | f => doneF f) (leaveH benv) id id bcode frB 700 s rfl hs'
  have k3 := piece_app (t_s2 w os) k4
  have k2 := piece_app (t_s1 w os) k3
  have k1 := piece_app (t_s0 w os) k2
  rw [← body0] at k1
  have k0 := go_top (t_pre w os) (piece_block (t_block w os) k1)
  have k := topRun_mono 2439 _ _ _ _ k0
  have en : 12 + (1 + (10 + (999 + (30 + ((8 + (15800 + 1)) + 700))))) + 2439 = 20000 := by decide
  rw [en] at k
  exact k
theorem open_plain : opening P0 = plainProg P0.main.scope.names := by kernel_rfl
theorem left : LeftO P0 qv loosev Xtv Yfv Yav 20000 := fun w => by
  obtain ⟨⟨h, gs, d, k, os⟩, e, e'⟩ := Option.map_eq_some_iff.mp (boot_open (p := P0) (N := 20000) open_plain rfl (fun s => rfl) w)
  obtain ⟨rfl, rfl, rfl, rfl⟩ : h = boot_heap w.params ∧ gs = Array.mk [] ∧ d = boot_drawn ∧ k = boot_toks := by simpa using e'
  obtain ⟨s, hs, e1, e2, e3⟩ := top_all w os
  have hz : ((boot_heap w.params).isNs mainGlobals && (Array.mk [] : Array GenState).size == 0) = true := by kernel_rfl
  have t : topFrom treeTable P0 w 20000 ⟨boot_heap w.params, Array.mk [], boot_drawn, boot_toks, os⟩ = some s := by
    unfold topFrom
    dsimp only
    rw [hz]
    show (topRun treeTable P0 w (boot_heap w.params).objs.size ((boot_heap w.params).nsMap mainGlobals "__annotations__") 20000 ⟨boot_heap w.params, Array.mk [], boot_drawn, boot_toks, os⟩ (topStub P0)).bind _ = _
    have hs' : topRun treeTable P0 w (boot_heap w.params).objs.size ((boot_heap w.params).nsMap mainGlobals "__annotations__") 20000 ⟨boot_heap w.params, Array.mk [], boot_drawn, boot_toks, os⟩ (topStub P0) = some s := by
      have z : (boot_heap w.params).nsMap mainGlobals "__annotations__" = annV := by kernel_rfl
      rw [z]
      exact hs
    rw [hs']
    show (match staticsOk (importedModules P0.main.body) (boot_heap w.params) s.heap && namesBound P0 s.heap && gensDone s && laidKept (boot_heap w.params) s.heap with | true => some s | false => none) = _
    rw [e1]
  unfold openEnds
  rw [e]
  show (topFrom treeTable P0 w 20000 _).map _ = _
  rw [t]
  exact congrArg some (Prod.ext e2 e3)
end partHead12
section partHead13
set_option autoImplicit false
/-- what the call asks of the two written objects -/
def Yp (w : World) (h : Heap) : Prop := ∃ m, h.Ns mainGlobals m ∧ m "b1_set" = some (.ref 22) ∧ m "b3_exceptions" = some (.ref 33) ∧ h.get? 22 = some (y22_s1 w.params) ∧ h.get? 33 = some (F3 0)
theorem Yp.keeps (w : World) (h h' : Heap) (y : Yp w h) (hk : ∀ b o, h.get? b = some o → h'.get? b = some o) : Yp w h' :=
  let ⟨m, h1, h2, h3, h4, h5⟩ := y; ⟨m, h1.keeps hk, h2, h3, hk _ _ h4, hk _ _ h5⟩
theorem F3_0 : F3 0 = dO (mainE 256 37 b3P) := rfl
theorem Yp.of (w : World) (s : Shared) (e : Yfv s = Yav w) : Yp w s.heap := by
  have e1 : s.heap.isNs mainGlobals = true := congrArg (·.1) e
  have e2 : s.heap.nsMap mainGlobals "b1_set" = some (.ref 22) := congrArg (·.2.1) e
  have e3 : s.heap.nsMap mainGlobals "b3_exceptions" = some (.ref 33) := congrArg (·.2.2.1) e
  have e4 : s.heap.objs[22]? = some (y22_s1 w.params) := congrArg (·.2.2.2.1) e
  have e5 : s.heap.objs[33]? = some (F3 0) := congrArg (·.2.2.2.2) e
  exact ⟨_, .of_isNs e1, e2, e3, (Heap.get?_eq_some _ _ _).2 ⟨e4, rfl⟩, (Heap.get?_eq_some _ _ _).2 ⟨e5, rfl⟩⟩
theorem ns_unique {h : Heap} {a : Addr} {m m' : Str → Option Value} (x : h.Ns a m) (y : h.Ns a m') : m = m' := by
  obtain ⟨o, es, ep, h1, h2, h3, h4⟩ := x
  obtain ⟨o', es', ep', g1, g2, g3, g4⟩ := y
  rw [h1] at g1; cases g1
  rw [h2] at g2; cases g2
  funext k
  rw [← h4, ← g4]
/-! the table -/
inductive FitsE : List DictEntry → List (Int × Str) → Prop
  | nil : FitsE [] []
  | cons {k : Int} {x : Str} {t u : Tok} {es : List DictEntry} {ps : List (Int × Str)} : FitsE es ps → FitsE (⟨hashInt k, .int k t, .str x u⟩ :: es) ((k, x) :: ps)
theorem ents_fitsE (st : Nat) : ∀ (t : Nat) (ps : List (Int × Str)), FitsE (ents st t ps) ps
  | _, [] => .nil
  | t, (k, x) :: r => .cons (ents_fitsE st _ r)
theorem FitsE.append {es es' : List DictEntry} {ps ps' : List (Int × Str)} (h : FitsE es ps) (g : FitsE es' ps') : FitsE (es ++ es') (ps ++ ps') := by
  induction h with
  | nil => exact g
  | cons _ ih => exact .cons ih
theorem FitsE.tab {w : World} {es : List DictEntry} {ps : List (Int × Str)} (h : FitsE es ps) : ∃ kvs : List (Int × Value), Pairs (intKind P0 w) es kvs ∧ PyProof.V.FlatPairs PyData.int kvs (ps.map fun y => (PyData.int y.1, PyData.str y.2)) ∧ kvs.map (·.1) = ps.map (·.1) := by
  induction h with
  | nil => exact ⟨[], .nil, .nil, rfl⟩
  | @cons k x t u es ps _ ih =>
    obtain ⟨kvs, h1, h2, h3⟩ := ih
    refine ⟨(k, .str x u) :: kvs, .cons (by show (k == k) = true; simp) rfl h1, .cons (fun _ => .str x u) h2, by rw [List.map_cons, List.map_cons, h3]⟩
theorem mainE_fits : FitsE (mainE 256 37 b3P) b3P := by
  have := (ents_fitsE 3 256 (b3P.take (17 * (37 + 1)))).append (ents_fitsE 2 (256 + 3 * (17 * (37 + 1))) (b3P.drop (17 * (37 + 1))))
  rw [List.take_append_drop] at this
  exact this
theorem b3P_keys : (b3P.map (·.1)).Nodup := by
  have := b3P_nodup
  rw [show (b3P.map fun y => hashInt y.1) = (b3P.map (·.1)).map hashInt from by rw [List.map_map]; rfl] at this
  exact List.Pairwise.of_map hashInt (fun a b h q => h (congrArg hashInt q)) this
theorem tab_b3 {w : World} {h : Heap} (y : h.get? 33 = some (F3 0)) : IntTab P0 w h 33 b3L := by
  obtain ⟨kvs, h1, h2, h3⟩ := mainE_fits.tab (w := w)
  rw [F3_0] at y
  refine ⟨rfl, kvs, ⟨_, _, _, y, ⟨rfl, rfl, rfl⟩, rfl, ?_, h1, by rw [h3]; exact b3P_keys⟩, by rw [b3P_list]; exact h2⟩
  intro e he
  have he' : e ∈ mainE 256 37 b3P := by simpa using he
  have : Ent e := by
    unfold mainE at he'
    rcases List.mem_append.mp he' with q | q
    · exact ents_ent _ _ _ e q
    · exact ents_ent _ _ _ e q
  obtain ⟨k, t, v, rfl⟩ := this
  exact ⟨k, by show (k == k) = true; simp, rfl⟩
/-! the set -/
def b1B : Bool := (b1Es.toList.all fun e => (match e.2 with | .int i _ => decide (e.1 = hashInt i) && decide (i ∈ b1L) | _ => false) && e.2.scannable) && b1L.all fun k => b1Es.toList.any fun e => Value.isInt k e.2
theorem b1_ok : b1B = true := by decide +kernel
theorem set_b1 {w : World} {h : Heap} (y : h.get? 22 = some (y22_s1 w.params)) : h.SetOf (intKind P0 w) 22 (fun k => decide (k ∈ b1L)) 27 := by
  have ok := b1_ok
  unfold b1B at ok
  obtain ⟨o1, o2⟩ := Bool.and_eq_true_iff.mp ok
  have each : ∀ e ∈ b1Es.toList, ∃ i t, e.2 = .int i t ∧ e.1 = hashInt i ∧ i ∈ b1L ∧ e.2.scannable = true := by
    intro e he
    have := List.all_eq_true.mp o1 e he
    obtain ⟨q1, q2⟩ := Bool.and_eq_true_iff.mp this
    obtain ⟨e1, v⟩ := e
    cases v <;> first | (cases q1; done) | skip
    rename_i i t
    simp only [Bool.and_eq_true, decide_eq_true_eq] at q1
    exact ⟨i, t, rfl, q1.1, q1.2, q2⟩
  refine ⟨_, b1Es, 29, _, y, ⟨rfl, rfl, rfl⟩, rfl, fun e he => ?_, fun k => ⟨fun hk => ?_, fun hk => ?_⟩, by decide +kernel, ?_, by decide +kernel⟩
  · obtain ⟨i, t, h1, h2, h3, h4⟩ := each e he
    exact ⟨⟨i, by rw [h1]; show (i == i) = true; simp, h2⟩, h4⟩
  · have := List.all_eq_true.mp o2 k (of_decide_eq_true hk)
    obtain ⟨e, h1, h2⟩ := List.any_eq_true.mp this
    exact ⟨e, h1, h2⟩
  · obtain ⟨e, he, h2⟩ := hk
    obtain ⟨i, t, h1, _, h3, _⟩ := each e he
    rw [h1] at h2
    have : i = k := by
      have h2' : (i == k) = true := h2
      exact eq_of_beq h2'
    exact decide_eq_true (this ▸ h3)
  · cases w.params.followText "set-order" <;> decide +kernel
end partHead13
section partMine3
set_option autoImplicit false
abbrev lO (vs : List Value) (k : Nat) : Obj := { cls := .type "list", data := .seq vs.toArray k }
abbrev tO (vs : List Value) : Obj := { cls := .type "tuple", data := .seq vs.toArray }

section
variable {w : World} {A : Around} {E : Value → Shared → Prop} {s₀ s : Shared} {L : Addr} {m : Str → Option Value} {news : Nw} {env : Env}

theorem St.iter {I : Addr} {o o' : Obj} {h' : Heap} {k : Nat} {d : Drawn} (S : St s₀ L m ((I, o) :: news) s) (hk : ∀ b ob, b ∉ [I] → s.heap.get? b = some ob → h'.get? b = some ob) (ho : h'.get? I = some o') :
    St s₀ L m ((I, o') :: news) ⟨h', s.gens, d, k, s.os⟩ := by
  have hI := S.nw (I, o) (.head _)
  have nd := S.nd
  rw [List.map_cons, List.nodup_cons] at nd
  obtain ⟨oL, es, ep, hL, r⟩ := S.fr.ns
  refine ⟨⟨⟨oL, es, ep, hk _ _ (by simpa using Ne.symm hI.2.1) hL, r⟩, fun b ob e => hk b ob (fun q => ?_) (S.fr.keep b ob e), S.fr.above⟩, fun p hp => ?_, S.nd, S.gens, S.os⟩
  · have q' : b = I := by simpa using q
    rw [q', hI.2.2] at e; cases e
  · rcases List.mem_cons.mp hp with rfl | hp
    · exact ⟨ho, hI.2⟩
    · have z := S.nw p (.tail _ hp)
      refine ⟨hk _ _ (fun q => nd.1 ?_) z.1, z.2⟩
      have q' : p.1 = I := by simpa using q
      exact List.mem_map.mpr ⟨p, hp, q'⟩
theorem St.drop {p : Addr × Obj} (S : St s₀ L m (p :: news) s) : St s₀ L m news s :=
  ⟨S.fr, fun q hq => S.nw q (.tail _ hq), (List.nodup_cons.mp (by rw [← List.map_cons]; exact S.nd)).2, S.gens, S.os⟩
theorem St.sub {news' : Nw} (S : St s₀ L m news s) (h : ∀ p ∈ news', p ∈ news) (hn : (news'.map (·.1)).Nodup) : St s₀ L m news' s :=
  ⟨S.fr, fun q hq => S.nw q (h q hq), hn, S.gens, S.os⟩
theorem St.perm {news' : Nw} (S : St s₀ L m news s) (h : List.Perm news' news) : St s₀ L m news' s :=
  S.sub (fun _ hp => h.mem_iff.mp hp) ((h.map _).nodup_iff.mpr S.nd)
theorem St.weaken {news' : Nw} (S : St s₀ L m news s) (h : List.Sublist news' news) : St s₀ L m news' s :=
  S.sub (fun _ hp => h.mem hp) ((h.map _).nodup S.nd)
theorem St.front {p q : Addr × Obj} (S : St s₀ L m (p :: q :: news) s) : St s₀ L m (q :: p :: news) s := S.perm (List.Perm.swap ..)

/-- a for over any walk: J says what holds of the locals and the ledger behind j items -/
theorem for_walk {I : Addr} {oI : Obj} {fp : List Addr} {n : Nat} {P : Nat → Value → Prop} {IS : Nat → Heap → Prop} {target : Expr} {body : List Stmt} {Q : Flow → Shared → Prop} {X : Value → Shared → Prop}
    (W : Walks P0 w A I fp [I] n P IS) (hasI : ∀ j h, IS j h → ∃ o, h.get? I = some o) (S : St s₀ L m ((I, oI) :: news) s) (h0 : IS 0 s.heap) (hb : ∀ b ∈ fp, b ≠ I → ∃ o, s.heap.get? b = some o)
    (J : Nat → (Str → Option Value) → Nw → Prop) (hJ : J 0 m news)
    (hfp : ∀ j m' nw', J j m' nw' → ∀ b ∈ fp, b ≠ I → ∀ o, s.heap.get? b = some o → s₀.heap.get? b = some o ∨ (b, o) ∈ nw')
    (turn : ∀ j v o m' nw' s', j < n → P j v → J j m' nw' → St s₀ L m' ((I, o) :: nw') s' → wpAny (model P0 w) A (assign target env v) (fun _ s₂ => wpAny (model P0 w) A (execs body env) (fun f s₃ => match f with
      | .next | .cont => ∃ m'' nw'', St s₀ L m'' ((I, o) :: nw'') s₃ ∧ J (j + 1) m'' nw''
      | .brk => Q .next s₃
      | .ret v => Q (.ret v) s₃) (fun _ _ => False) s₂) (fun _ _ => False) s')
    (done : ∀ m' nw' s', J n m' nw' → St s₀ L m' nw' s' → Q .next s') (ht : ∀ v, letOwnedTupleGo target (.ref I) v = pure () := by intro _; rfl) :
    codeAny (model P0 w) A (.forLoop target (.ref I) body [] env) (fun r s' => match r with | .ok f => Q f s' | .error e => X e s') s := by
  refine codeAny_forLoop (fun k s' => ∃ j m' nw' o, j ≤ n ∧ k = n + 1 - j ∧ J j m' nw' ∧ St s₀ L m' ((I, o) :: nw') s' ∧ IS j s'.heap ∧ (∀ b ∈ fp, b ≠ I → ∀ o, s.heap.get? b = some o → s'.heap.get? b = some o)) ?_ (n + 1)
    ⟨0, m, news, oI, Nat.zero_le _, rfl, hJ, S, h0, fun _ _ _ _ e => e⟩ ht
  rintro k s' ⟨j, m', nw', o, hj, rfl, hJ', S', hIS, hk⟩
  by_cases hjn : j < n
  · refine W.item j s' _ _ hjn hIS fun v h' tk hP hIS' hkeep => ?_
    obtain ⟨o', ho'⟩ := hasI _ _ hIS'
    have S₁ := S'.iter (k := tk) (d := s'.drawn) hkeep ho'
    refine wpAny_mono (turn j v o' m' nw' _ hjn hP hJ' S₁) (fun _ s₂ h₂ => wpAny_mono h₂ (fun f s₃ h₃ => ?_) fun _ _ f => f.elim) fun _ _ f => f.elim
    have fin : (∃ m'' nw'', St s₀ L m'' ((I, o') :: nw'') s₃ ∧ J (j + 1) m'' nw'') → ∃ k', k' < n + 1 - j ∧ ∃ j m' nw' o, j ≤ n ∧ k' = n + 1 - j ∧ J j m' nw' ∧ St s₀ L m' ((I, o) :: nw') s₃ ∧ IS j s₃.heap ∧ (∀ b ∈ fp, b ≠ I → ∀ o, s.heap.get? b = some o → s₃.heap.get? b = some o) := by
      rintro ⟨m'', nw'', S₃, hJ₃⟩
      have keep₃ : ∀ b ∈ fp, b ≠ I → ∀ o, s.heap.get? b = some o → s₃.heap.get? b = some o := fun b hbf hbI ob hob => by
        rcases hfp _ _ _ hJ₃ b hbf hbI ob hob with z | z
        · exact S₃.base z
        · exact S₃.mem (.tail _ z)
      refine ⟨n + 1 - (j + 1), by omega, j + 1, m'', nw'', o', hjn, rfl, hJ₃, S₃, W.frame _ _ _ hIS' (fun b hbf ob hob => ?_), keep₃⟩
      by_cases hbI : b = I
      · subst hbI
        rw [ho'] at hob; cases hob
        exact S₃.mem (.head _)
      · obtain ⟨ob', hob'⟩ := hb b hbf hbI
        have := hkeep b ob' (by simpa using hbI) (hk b hbf hbI ob' hob')
        rw [hob] at this; cases this
        exact keep₃ b hbf hbI ob hob'
    cases f with
    | next => exact fin h₃
    | cont => exact fin h₃
    | brk => exact h₃
    | ret v => exact h₃
  · have : j = n := by omega
    subst this
    refine W.done s' _ _ hIS fun h' tk hkeep => ?_
    refine wpAny_execs_nil ?_
    refine done m' nw' _ hJ' ?_
    have S₂ : St s₀ L m' nw' s' := S'.drop
    have nI : ∀ b ob, s'.heap.get? b = some ob → b ≠ I → h'.get? b = some ob := fun b ob e q => hkeep b ob (by simpa using q) e
    have hI := S'.nw (I, o) (.head _)
    have nd := S'.nd
    rw [List.map_cons, List.nodup_cons] at nd
    obtain ⟨oL, es, ep, hL, r⟩ := S'.fr.ns
    refine ⟨⟨⟨oL, es, ep, nI _ _ hL (Ne.symm hI.2.1), r⟩, fun b ob e => nI b ob (S'.fr.keep b ob e) (fun q => ?_), S'.fr.above⟩, fun p hp => ?_, S₂.nd, S'.gens, S'.os⟩
    · rw [q] at e
      have h2 := hI.2.2
      rw [e] at h2; cases h2
    · have z := S₂.nw p hp
      exact ⟨nI _ _ z.1 (fun q => nd.1 (List.mem_map.mpr ⟨p, hp, q⟩)), z.2⟩
end
end partMine3
section partMine4
set_option autoImplicit false
section
variable {w : World} {A : Around} {E : Value → Shared → Prop} {s₀ s : Shared} {L : Addr} {m : Str → Option Value} {news : Nw} {env : Env}
theorem lO_list {h : Heap} {D : Addr} {ys : List Value} {k : Nat} (e : h.get? D = some (lO ys k)) : h.IsList D ys.toArray := ⟨_, e, rfl, k, rfl⟩
theorem lO_plain {h : Heap} {D : Addr} {ys : List Value} {k : Nat} (e : h.get? D = some (lO ys k)) : h.PlainList D ys.toArray := ⟨k, e⟩

theorem r_append {D : Addr} {ys : List Value} {k : Nat} {y : Value} {Q : Value → Shared → Prop} (i : Nat) (S : St s₀ L m news s) (hi : news[i]? = some (D, lO ys k)) (hsz : ys.length ≤ sizeLine)
    (h : ∀ k' s', St s₀ L m (news.set i (D, lO (ys ++ [y]) k')) s' → Q .none s') : wpAny (model P0 w) A (call (.builtin "list.append") [.ref D, y]) Q E s := by
  refine wpAny_list_append_plain (lO_plain (S.at i hi)) (fun h' hp hs => ?_) (by simpa using hsz)
  obtain ⟨k', hk'⟩ := hp
  rw [List.push_toArray] at hk'
  exact h k' _ (S.upd (d := s.drawn) (k := s.toks) i hi hs hk')

/-- a comprehension of one for: J says what holds of the list so far, the comprehension's locals and what its elements made -/
theorem comp_block {elt target iter : Expr} {ifs : List Expr} {scope : Scope} {cl : List (Str × Addr)} {pos : Pos} {s₁ s₂ : Shared} {I : Addr} {oI : Obj} {fp : List Addr} {n : Nat} {P : Nat → Value → Prop} {IS : Nat → Heap → Prop}
    {RR : Value → Addr → Result → Shared → Prop}
    (W : Walks P0 w A I fp [I] n P IS) (hasI : ∀ j h, IS j h → ∃ o, h.get? I = some o) (e₁₂ : Ext s₁ s₂) (hIn : s₁.heap.get? I = none) (hI2 : s₂.heap.get? I = some oI) (hgrow : s₁.heap.objs.size ≤ s₂.heap.objs.size) (h0 : IS 0 s₂.heap)
    (hb : ∀ b ∈ fp, b ≠ I → ∃ o, s₁.heap.get? b = some o) (hsz : n ≤ sizeLine)
    (hcell : ∀ y ∈ scope.names, y.2 ≠ .cell) (hkind : scope.kind = .function)
    (J : Nat → List Value → (Str → Option Value) → Nw → Prop) (hJ : J 0 [] (fun _ => none) []) (hlen : ∀ j ys m' nw', J j ys m' nw' → ys.length ≤ j)
    (turn : ∀ C D j k v ys m' nw' o s', j < n → P j v → J j ys m' nw' → St s₁ C m' ((I, o) :: (D, lO ys k) :: nw') s' →
      wpAny (model P0 w) A (assign target (compEnvC scope cl C env) v) (fun _ s₃ => wpAny (model P0 w) A (forIn ifs true fun c r => if r = true then do let ok ← isTrue c (compEnvC scope cl C env) (eval c (compEnvC scope cl C env)); pure (ForInStep.yield ok) else pure (ForInStep.yield r)) (fun ok s₄ =>
        if ok = true then wpAny (model P0 w) A (eval elt (compEnvC scope cl C env)) (fun y s₅ => ∃ m'' nw'', St s₁ C m'' ((I, o) :: (D, lO ys k) :: nw'') s₅ ∧ J (j + 1) (ys ++ [y]) m'' nw'') (fun _ _ => False) s₄
        else ∃ m'' nw'', St s₁ C m'' ((I, o) :: (D, lO ys k) :: nw'') s₄ ∧ J (j + 1) ys m'' nw'') (fun _ _ => False) s₃) (fun _ _ => False) s')
    (hRR : ∀ D C k ys m' nw' s', J n ys m' nw' → St s₁ C m' ((D, lO ys k) :: nw') s' → RR (.ref D) C (.ok .next) s') (ht : ∀ v, letOwnedTupleGo target (.ref I) v = pure () := by intro _; rfl) :
    wpAny (model P0 w) A (newList []) (fun acc s₃ => wpAny (model P0 w) A (newFunctionEnv scope env.globals cl [] env.qual none .none (some env)) (fun cenv s₄ =>
      codeAny (model P0 w) A (.compStart (.ListComp elt [⟨target, iter, ifs, 0⟩] scope pos) 0 (.ref I) acc { cenv with scope := relabel scope env }) (RR acc cenv.locals) s₄) E s₃) E s₂ := by
  refine wpAny_newObj_type (wpAny_newFunctionEnv hcell (by intro y hy; simp at hy) (fun h₁ hns₁ hsb₁ => ?_) hkind)
  dsimp only at hns₁ hsb₁ ⊢
  generalize hH2 : s₂.heap.push { cls := .type "list", dict := none, data := .seq ([] : List Value).toArray } = H2 at hns₁ hsb₁ ⊢
  have hC : H2.objs.size = s₂.heap.objs.size + 1 := by rw [← hH2, Heap.size_push]
  generalize hD : s₂.heap.objs.size = D at hC ⊢
  generalize hCC : H2.objs.size = C at hns₁ hsb₁ hC ⊢
  have old : ∀ b o, s₂.heap.get? b = some o → h₁.get? b = some o := fun b o e => by
    have lt := Heap.lt_size e
    exact hsb₁.extBut b o (by rw [hC, ← hD]; exact Nat.ne_of_lt (Nat.lt_succ_of_lt lt)) (Heap.get?_push_of_some _ (hH2 ▸ Heap.get?_push_of_some _ e))
  have fresh : ∀ a, D ≤ a → s₂.heap.get? a = none := fun a ha => by
    cases e : s₂.heap.get? a with
    | none => rfl
    | some o' => exact absurd (Heap.lt_size e) (Nat.not_lt.mpr (hD ▸ ha))
  have fresh₁ : ∀ a, D ≤ a → s₁.heap.get? a = none := fun a ha => by
    cases e : s₁.heap.get? a with
    | none => rfl
    | some o' => have := e₁₂.keep _ _ e; rw [fresh a ha] at this; cases this
  have hDC : D ≠ C := by rw [hC]; exact Nat.ne_of_lt (Nat.lt_succ_self _)
  have hI₁ : h₁.get? I = some oI := old _ _ hI2
  have hD₁ : h₁.get? D = some (lO [] 0) := hsb₁.extBut _ _ hDC (Heap.get?_push_of_some _ (hH2 ▸ hD ▸ Heap.get?_push_size _ rfl))
  have hID : I ≠ D := fun q => by rw [q] at hI2; rw [fresh D (Nat.le_refl _)] at hI2; cases hI2
  have hIC : I ≠ C := fun q => by rw [q] at hI2; rw [fresh C (by rw [hC]; exact Nat.le_succ _)] at hI2; cases hI2
  have hab : s₁.heap.objs.size ≤ C := by
    have := hgrow
    rw [hC, ← hD]; exact Nat.le_succ_of_le this
  have S₃ : St s₁ C (fun _ => none) ((I, oI) :: (D, lO [] 0) :: []) ⟨h₁, s₂.gens, s₂.drawn, s₂.toks + ([] : List (Str × Value)).length, s₂.os⟩ := by
    refine ⟨⟨hns₁, fun b o e => old b o (e₁₂.keep b o e), hab⟩, fun p hp => ?_, ?_, e₁₂.gens, e₁₂.os⟩
    · rcases List.mem_cons.mp hp with rfl | hp
      · exact ⟨hI₁, hIC, hIn⟩
      · rcases List.mem_cons.mp hp with rfl | hp
        · exact ⟨hD₁, hDC, fresh₁ D (Nat.le_refl _)⟩
        · cases hp
    · simp [hID]
  generalize hs₃ : (⟨h₁, s₂.gens, s₂.drawn, s₂.toks + ([] : List (Str × Value)).length, s₂.os⟩ : Shared) = s₃ at S₃ ⊢
  have hIS₃ : IS 0 s₃.heap := W.frame _ _ _ h0 fun b _ o e => by rw [← hs₃]; exact old b o e
  have loop : codeAny (model P0 w) A (.compLoop (.ListComp elt [⟨target, iter, ifs, 0⟩] scope pos) 0 (.ref I) (.ref D) (compEnvC scope cl C env)) (RR (.ref D) C) s₃ := by
    refine codeAny_compLoop_tests (fun k s' => ∃ j ys k' m' nw' o, j ≤ n ∧ k = n + 1 - j ∧ J j ys m' nw' ∧ St s₁ C m' ((I, o) :: (D, lO ys k') :: nw') s' ∧ IS j s'.heap) ?_ (n + 1)
      ⟨0, [], 0, _, [], oI, Nat.zero_le _, rfl, hJ, S₃, hIS₃⟩ ht
    rintro k s' ⟨j, ys, k', m', nw', o, hj, rfl, hJ', S', hIS⟩
    by_cases hjn : j < n
    · refine W.item j s' _ _ hjn hIS fun v h' tk hP hIS' hkeep => ?_
      obtain ⟨o', ho'⟩ := hasI _ _ hIS'
      have S₁ := S'.iter (k := tk) (d := s'.drawn) hkeep ho'
      have again : ∀ {s₅ : Shared} {ys' : List Value} {k'' : Nat} {m'' : Str → Option Value} {nw'' : Nw}, St s₁ C m'' ((I, o') :: (D, lO ys' k'') :: nw'') s₅ → J (j + 1) ys' m'' nw'' →
          ∃ q, q < n + 1 - j ∧ ∃ j ys k' m' nw' o, j ≤ n ∧ q = n + 1 - j ∧ J j ys m' nw' ∧ St s₁ C m' ((I, o) :: (D, lO ys k') :: nw') s₅ ∧ IS j s₅.heap := fun {s₅ ys' k'' m'' nw''} S₅ hJ₅ => by
        refine ⟨n + 1 - (j + 1), by omega, j + 1, ys', k'', m'', nw'', o', hjn, rfl, hJ₅, S₅, W.frame _ _ _ hIS' (fun b hbf ob hob => ?_)⟩
        by_cases hbI : b = I
        · subst hbI
          rw [ho'] at hob; cases hob
          exact S₅.mem (.head _)
        · obtain ⟨ob', hob'⟩ := hb b hbf hbI
          have := S₁.base hob'
          rw [hob] at this; cases this
          exact S₅.base hob'
      refine wpAny_mono (turn C D j k' v ys m' nw' o' _ hjn hP hJ' S₁) (fun _ s₄ h₄ => wpAny_mono h₄ (fun ok s₅ h₅ => ?_) fun _ _ f => f.elim) fun _ _ f => f.elim
      cases ok with
      | true =>
        rw [if_pos rfl] at h₅ ⊢
        refine wpAny_mono h₅ (fun y s₆ h₆ => ?_) fun _ _ f => f.elim
        obtain ⟨m'', nw'', S₆, hJ₆⟩ := h₆
        refine r_append 1 S₆ rfl (Nat.le_trans (hlen _ _ _ _ hJ') (by omega)) fun k'' s₇ S₇ => ?_
        exact again S₇ hJ₆
      | false =>
        rw [if_neg Bool.false_ne_true] at h₅ ⊢
        obtain ⟨m'', nw'', S₆, hJ₆⟩ := h₅
        exact again S₆ hJ₆
    · have : j = n := by omega
      subst this
      refine W.done s' _ _ hIS fun h' tk hkeep => ?_
      have S₂ := S'.drop
      have nI : ∀ b ob, s'.heap.get? b = some ob → b ≠ I → h'.get? b = some ob := fun b ob e q => hkeep b ob (by simpa using q) e
      have hI := S'.nw (I, o) (.head _)
      have nd := S'.nd
      rw [List.map_cons, List.nodup_cons] at nd
      obtain ⟨oL, es, ep, hL, r⟩ := S'.fr.ns
      refine hRR D C k' ys m' nw' _ hJ' ⟨⟨⟨oL, es, ep, nI _ _ hL (Ne.symm hI.2.1), r⟩, fun b ob e => nI b ob (S'.fr.keep b ob e) (fun q => ?_), S'.fr.above⟩, fun p hp => ?_, S₂.nd, S'.gens, S'.os⟩
      · rw [q] at e
        have h2 := hI.2.2
        rw [e] at h2; cases h2
      · have z := S₂.nw p hp
        exact ⟨nI _ _ z.1 (fun q => nd.1 (List.mem_map.mpr ⟨p, hp, q⟩)), z.2⟩
  exact codeAny_compStart_list loop (W.self 0 _ _ _ hIS₃ loop)
end
end partMine4
section partMine5
set_option autoImplicit false
/-- what a piece of the run made: nw stands at s', and was not there at s -/
structure Made (s : Shared) (nw : Nw) (s' : Shared) : Prop where
  ext : Ext s s'
  new : ∀ p ∈ nw, s'.heap.get? p.1 = some p.2 ∧ s.heap.get? p.1 = none
  nd : (nw.map (·.1)).Nodup
theorem Made.nil {s s' : Shared} (e : Ext s s') : Made s [] s' := ⟨e, (fun _ hp => nomatch hp), List.nodup_nil⟩
theorem Made.sub {s s' : Shared} {nw nw' : Nw} (M : Made s nw s') (h : ∀ p ∈ nw', p ∈ nw) (hn : (nw'.map (·.1)).Nodup) : Made s nw' s' := ⟨M.ext, fun p hp => M.new p (h p hp), hn⟩
theorem Made.weaken {s s' : Shared} {nw nw' : Nw} (M : Made s nw s') (h : List.Sublist nw' nw) : Made s nw' s' := M.sub (fun _ hp => h.mem hp) ((h.map _).nodup M.nd)
theorem Made.perm {s s' : Shared} {nw nw' : Nw} (M : Made s nw s') (h : List.Perm nw' nw) : Made s nw' s' := M.sub (fun _ hp => h.mem_iff.mp hp) ((h.map _).nodup_iff.mpr M.nd)
section
variable {w : World} {A : Around} {E : Value → Shared → Prop} {s₀ s s' : Shared} {L : Addr} {m : Str → Option Value} {news nw : Nw} {env : Env}
theorem St.made (S : St s₀ L m news s) : Made s₀ news s := ⟨S.ext, fun p hp => ⟨(S.nw p hp).1, (S.nw p hp).2.2⟩, S.nd⟩
theorem St.join (S : St s₀ L m news s) (M : Made s nw s') : St s₀ L m (nw ++ news) s' := by
  have S' := S.step M.ext
  refine ⟨S'.fr, fun p hp => ?_, ?_, S'.gens, S'.os⟩
  · rcases List.mem_append.mp hp with hp | hp
    · obtain ⟨h1, h2⟩ := M.new p hp
      refine ⟨h1, fun q => ?_, ?_⟩
      · obtain ⟨oL, _, _, hL, _⟩ := S.fr.ns
        rw [← q, h2] at hL; cases hL
      · cases q : s₀.heap.get? p.1 with
        | none => rfl
        | some o' => have := S.fr.keep _ _ q; rw [h2] at this; cases this
    · exact S'.nw p hp
  · rw [List.map_append, List.nodup_append]
    refine ⟨M.nd, S.nd, fun a ha b hb q => ?_⟩
    obtain ⟨p, hp, rfl⟩ := List.mem_map.mp ha
    obtain ⟨p', hp', rfl⟩ := List.mem_map.mp hb
    have h1 := (M.new p hp).2
    have h2 := (S.nw p' hp').1
    rw [q, h2] at h1; cases h1

/-- a value that can be walked -/
def Src (w : World) (A : Around) (xv : Value) (s₁ : Shared) (n : Nat) (P : Nat → Value → Prop) : Prop :=
  ∀ (Q : Value → Shared → Prop) (E : Value → Shared → Prop), (∀ I oI fp IS s₂, Walks P0 w A I fp [I] n P IS → (∀ j h, IS j h → ∃ o, h.get? I = some o) → Ext s₁ s₂ → s₁.heap.get? I = none → s₂.heap.get? I = some oI → s₁.heap.objs.size ≤ s₂.heap.objs.size → IS 0 s₂.heap →
    (∀ b ∈ fp, b ≠ I → ∃ o, s₁.heap.get? b = some o ∧ Value.ref b = xv) → Q (.ref I) s₂) → wpAny (model P0 w) A (pyIter xv) Q E s₁
theorem push_ext (s : Shared) (o : Obj) (d : Drawn) (k : Nat) : Ext s ⟨s.heap.push o, s.gens, d, k, s.os⟩ := ⟨fun _ _ e => Heap.get?_push_of_some _ e, rfl, rfl⟩
theorem get_size (h : Heap) : h.get? h.objs.size = none := by
  cases e : h.get? h.objs.size with
  | none => rfl
  | some o => exact absurd (Heap.lt_size e) (Nat.lt_irrefl _)
theorem src_list {ax : Addr} {items : Array Value} (hh : A.handled = none) (hl : s.heap.IsList ax items) : Src w A (.ref ax) s items.size (fun i v => items[i]? = some v) := by
  intro Q E h
  have hne : ax ≠ s.heap.objs.size := by obtain ⟨o, e, _⟩ := hl; exact Nat.ne_of_lt (Heap.lt_size e)
  refine wpAny_pyIter_list hl ?_
  refine h _ _ _ _ _ (Walks.list hh s.heap.objs.size ax hne items) (fun j h hi => let ⟨o, e, _⟩ := hi.1; ⟨o, e⟩) (push_ext s _ _ _) (get_size _) (Heap.get?_push_size _ rfl) (by rw [Heap.size_push]; exact Nat.le_succ _) ⟨⟨_, Heap.get?_push_size _ rfl, rfl, rfl⟩, hl.push _⟩ ?_
  intro b hb hne
  simp only [List.mem_cons, List.not_mem_nil, or_false] at hb
  rcases hb with rfl | rfl
  · exact absurd rfl hne
  · obtain ⟨o, e, _⟩ := hl; exact ⟨o, e, rfl⟩
theorem src_tuple {ax : Addr} {items : Array Value} (hh : A.handled = none) (hl : s.heap.IsTuple ax items) : Src w A (.ref ax) s items.size (fun i v => items[i]? = some v) := by
  intro Q E h
  have hne : ax ≠ s.heap.objs.size := by obtain ⟨o, e, _⟩ := hl; exact Nat.ne_of_lt (Heap.lt_size e)
  refine wpAny_pyIter_tuple hl ?_
  refine h _ _ _ _ _ (Walks.tuple hh s.heap.objs.size ax hne items) (fun j h hi => let ⟨o, e, _⟩ := hi.1; ⟨o, e⟩) (push_ext s _ _ _) (get_size _) (Heap.get?_push_size _ rfl) (by rw [Heap.size_push]; exact Nat.le_succ _) ⟨⟨_, Heap.get?_push_size _ rfl, rfl, rfl⟩, hl.push _⟩ ?_
  intro b hb hne
  simp only [List.mem_cons, List.not_mem_nil, or_false] at hb
  rcases hb with rfl | rfl
  · exact absurd rfl hne
  · obtain ⟨o, e, _⟩ := hl; exact ⟨o, e, rfl⟩
theorem src_range {r : Addr} {n : Nat} {t u v : Tok} (hh : A.handled = none) (hr : IsRange s.heap r 0 n 1 t u v) (hn : n < 1000000) : Src w A (.ref r) s n (fun i v => ∃ t, v = .int i t) := by
  intro Q E h
  have hz : Builtin.Range.rangeSize 0 (n : Int) 1 = n := by
    unfold Builtin.Range.rangeSize
    split <;> simp_all <;> omega
  refine wpAny_pyIter_range hr ?_ ?_
  · rw [show Builtin.Range.small 0 (n : Int) 1 = _ from rfl]; unfold Builtin.Range.small; rw [hz]; simp [Builtin.Range.rangeFitsLong]; omega
  have W := Walks.range (prog := P0) (w := w) hh s.heap.objs.size 0 1 n
  refine h _ _ _ _ _ ⟨W.sub, W.frame, fun i s Q E hi st hQ => W.item i s Q E hi st (fun v h' tk hP => hQ v h' tk (by obtain ⟨t, rfl⟩ := hP; exact ⟨t, by simp⟩)), W.done, W.self⟩ (fun j h hi => ⟨_, hi⟩) (push_ext s _ _ _) (get_size _) (Heap.get?_push_size _ rfl) (by rw [Heap.size_push]; exact Nat.le_succ _) ?_ ?_
  · show IsRangeIter _ _ _ _ _
    have := Heap.get?_push_size s.heap (o := { cls := .type "range_iterator", data := .fields #[rawInt 0, rawInt (Builtin.Range.rangeSize 0 (n : Int) 1), rawInt 1] }) rfl
    rw [hz] at this ⊢
    simpa [IsRangeIter] using this
  · intro b hb hne
    simp only [List.mem_cons, List.not_mem_nil, or_false] at hb
    exact absurd hb hne

theorem r_comp {elt target iter : Expr} {ifs : List Expr} {scope : Scope} {cl : List (Str × Addr)} {pos : Pos} {Q : Value → Shared → Prop}
    (hclos : closureFor scope env = pure cl) (hcell : ∀ y ∈ scope.names, y.2 ≠ .cell) (hkind : scope.kind = .function)
    (hnames : ∀ y ∈ scope.names, y.2 = .local → scope.names.lookup y.1 = some .local)
    (h : wpAny (model P0 w) A (eval iter env) (fun xv s₁ => ∃ (n : Nat) (P : Nat → Value → Prop) (J : Nat → List Value → (Str → Option Value) → Nw → Prop), Src w A xv s₁ n P ∧ n ≤ sizeLine ∧
      J 0 [] (fun _ => none) [] ∧ (∀ j ys m' nw', J j ys m' nw' → ys.length ≤ j) ∧
      (∀ C D j k v ys m' nw' I o s', j < n → P j v → J j ys m' nw' → St s₁ C m' ((I, o) :: (D, lO ys k) :: nw') s' →
        wpAny (model P0 w) A (assign target (compEnvC scope cl C env) v) (fun _ s₃ => wpAny (model P0 w) A (forIn ifs true fun c r => if r = true then do let ok ← isTrue c (compEnvC scope cl C env) (eval c (compEnvC scope cl C env)); pure (ForInStep.yield ok) else pure (ForInStep.yield r)) (fun ok s₄ =>
          if ok = true then wpAny (model P0 w) A (eval elt (compEnvC scope cl C env)) (fun y s₅ => ∃ m'' nw'', St s₁ C m'' ((I, o) :: (D, lO ys k) :: nw'') s₅ ∧ J (j + 1) (ys ++ [y]) m'' nw'') (fun _ _ => False) s₄
          else ∃ m'' nw'', St s₁ C m'' ((I, o) :: (D, lO ys k) :: nw'') s₄ ∧ J (j + 1) ys m'' nw'') (fun _ _ => False) s₃) (fun _ _ => False) s') ∧
      (∀ D k ys m' nw' s', J n ys m' nw' → Made s₁ ((D, lO ys k) :: nw') s' → Q (.ref D) s')) E s)
    (hs : ∀ x, foldedSetIterable iter env x = pure x := by intro _; rfl) (ht : ∀ it v, letOwnedTupleGo target (.ref it) v = pure () := by intro _ _; rfl) :
    wpAny (model P0 w) A (eval (.ListComp elt [⟨target, iter, ifs, 0⟩] scope pos) env) Q E s := by
  rw [eval_ListComp]
  refine wpAny_comprehension_free (use := none) rfl hs hclos hkind hnames (wpAny_mono h (fun xv s₁ h₁ => ?_) fun _ _ e => e)
  obtain ⟨n, P, J, hsrc, hsz, hJ, hlen, turn, fin⟩ := h₁
  refine hsrc _ _ fun I oI fp IS s₂ W hasI e₁₂ hIn hI2 hg hIS hb => ?_
  refine comp_block (RR := fun acc C => compPost (model P0 w) A E none Q acc C) W hasI e₁₂ hIn hI2 hg hIS (fun b h1 h2 => let ⟨o, e, _⟩ := hb b h1 h2; ⟨o, e⟩) hsz hcell hkind J hJ hlen (fun C D j k v ys m' nw' o s' => turn C D j k v ys m' nw' I o s') ?_ (ht I)
  intro D C k ys m' nw' s' hJ' S'
  refine ⟨m', S'.fr.ns, fun h' hs' => fin D k ys m' nw' _ hJ' ?_⟩
  have hkeep : ∀ b o, s₁.heap.get? b = some o → h'.get? b = some o := fun b o e => (hs'.2 b (Nat.ne_of_lt (Nat.lt_of_lt_of_le (Heap.lt_size e) S'.fr.above))).trans (S'.fr.keep b o e)
  exact ⟨⟨hkeep, S'.gens, S'.os⟩, fun p hp => ⟨(hs'.2 _ (S'.nw p hp).2.1).trans (S'.nw p hp).1, (S'.nw p hp).2.2⟩, S'.nd⟩
end
end partMine5
section partMine6
set_option autoImplicit false
local macro_rules | `(tactic| walk_at "nm") => `(tactic| kernel_rfl)
local macro_rules | `(tactic| walk_at "ld") => `(tactic| refine r_local (by assumption) (by rfl) ?_ (by kernel_rfl) (by kernel_rfl) (by kernel_rfl) (by kernel_rfl))

theorem join_fold (sep : Str) : ∀ (l : List Str) (a : Nat), (∀ x ∈ l, x.length ≤ 100) → sep.length ≤ 100 → l.foldl (· + ·.length + sep.length) a ≤ a + 200 * l.length
  | [], a, _, _ => by simp
  | x :: l, a, h, hs => by
    rw [List.foldl_cons]
    have := join_fold sep l (a + x.length + sep.length) (fun y hy => h y (.tail _ hy)) hs
    have := h x (.head _)
    rw [List.length_cons]; omega
theorem joinOk_small {sep : Str} {l : List Str} (h : ∀ x ∈ l, x.length ≤ 100) (hs : sep.length ≤ 100) (hl : l.length ≤ 1000) : JoinOk sep l = true := by
  unfold JoinOk
  rw [List.foldl_toArray]
  have := join_fold sep l 0 h hs
  unfold Builtin.Str.tooLong
  rw [sizeLine_eq]
  simp only [Bool.not_eq_true', decide_eq_false_iff_not]
  omega

def ltr (p0 p1 : Str) (b : Int) : Str := if b = 0 then p0 else p1
def wordOf (p0 p1 : Str) (bs : List Int) : Str := Txt.join (Str.ofString "") (bs.map (ltr p0 p1))
def Bits (bs : List Int) : Prop := ∀ b ∈ bs, b = 0 ∨ b = 1
section
variable {w : World} {A : Around} {E : Value → Shared → Prop} {s₀ s : Shared} {L : Addr} {m : Str → Option Value} {news : Nw} {env : Env}
theorem r_join {x : Str} {t : Tok} {Dl : Addr} {l : List (Str × Tok)} {texts : List Str} {Q : Value → Shared → Prop} (S : St s₀ L m news s) (hl : s.heap.IsList Dl (strValues l).toArray) (ht : l.map (·.1) = texts) (hok : JoinOk x texts = true)
    (h : ∀ u s', St s₀ L m news s' → Q (.str (Txt.join x texts) u) s') : wpAny (model P0 w) A (call (.builtin "str.join") [.str x t, .ref Dl]) Q E s := SC.join hl ht hok fun _ _ => h _ _ S.tok
theorem strValues_snoc (l : List (Str × Tok)) (x : Str) (t : Tok) : strValues l ++ [.str x t] = strValues (l ++ [(x, t)]) := by simp [strValues]
theorem ints_at {vs : List Value} {ns : List Int} (h : IntsAre vs ns) : ∀ {i : Nat} {v : Value}, vs[i]? = some v → ∃ n t, ns[i]? = some n ∧ v = .int n t := by
  induction h with
  | nil => intro i v e; simp at e
  | cons n t _ ih =>
    intro i v e
    cases i with
    | zero => simp at e; exact ⟨n, t, by simp, e.symm⟩
    | succ i => exact ih (i := i) (by simpa using e)
theorem ints_len {vs : List Value} {ns : List Int} (h : IntsAre vs ns) : vs.length = ns.length := by
  induction h with
  | nil => rfl
  | cons _ _ _ ih => simp [ih]
end

set_option maxHeartbeats 1000000 in
theorem c_word {w : World} {A : Around} {E : Value → Shared → Prop} {s : Shared} {mg mb : Str → Option Value} {a pa ra : Addr} {p0 p1 : Str} {t0 t1 : Tok} {vs : List Value} {bs : List Int} {Q : Value → Shared → Prop}
    (R : Room A 1) (G : Gl w mg mb s.heap) (F : FnAt s.heap (D 19) a) (hp : s.heap.get? pa = some (tO [.str p0 t0, .str p1 t1])) (hr : s.heap.IsList ra vs.toArray) (hv : IntsAre vs bs) (hb : Bits bs) (hl : bs.length ≤ 10)
    (h0 : p0.length ≤ 100) (h1 : p1.length ≤ 100)
    (h : ∀ u s', Ext s s' → Q (.str (wordOf p0 p1 bs) u) s') : wpAny (model P0 w) A (call (.ref a) [.ref pa, .ref ra]) Q E s := by
  refine enter (binds := [("pair", .ref pa), ("row", .ref ra)]) R F G.nolimit (fun _ _ _ => rfl) (by kernel_rfl) (by decide +kernel) (fun cd s₁ cells S X => ?_) (by intro n; exact List.nodup_cons.mpr ⟨by simp, List.nodup_nil⟩)
  obtain ⟨o, rfl, hd⟩ := CellsAre.one X
  refine wpAny_execs_cons (wpAny_Return_some ?_)
  refine MethodCall_ ?_
  refine r_str S fun t₂ s₂ S => ?_
  refine GM.join ?_
  refine callWith_method1 ?_
  refine spliced_more ?_ (star_of nofun)
  refine r_comp (cl := [("pair", s.heap.objs.size + 1)]) (by kernel_rfl) (by decide +kernel) (by kernel_rfl) (by decide +kernel) ?_
  walk_at "ld"
  have hR := (R.deeper (env := envOfC (D 19).name (D 19).scope s.heap.objs.size a cd)).handled
  have hrl : s₂.heap.IsList ra vs.toArray := by obtain ⟨ol, e, r⟩ := hr; exact ⟨ol, S.base e, r⟩
  refine ⟨_, _, fun j ys m' nw' => nw' = [] ∧ ∃ l : List (Str × Tok), ys = strValues l ∧ l.map (·.1) = (bs.take j).map (ltr p0 p1), src_list hR hrl, ?_, ⟨rfl, [], rfl, rfl⟩, ?_, ?_, ?_⟩
  · rw [List.size_toArray, ints_len hv, sizeLine_eq]; omega
  · rintro j ys m' nw' ⟨_, l, rfl, hl'⟩
    have := congrArg List.length hl'
    simp at this
    simp [strValues]; omega
  · rintro C Dd j k v ys m' nw' I oo s' hj hv' ⟨rfl, l, rfl, hl'⟩ S'
    refine PyProof.Rows.assign_Name ?_
    refine r_store S' (fun s₃ S₃ => ?_) (by walk_at "nm") (by walk_at "nm") (by walk_at "nm")
    refine wpAny_tests_nil ?_
    rw [if_pos rfl]
    refine Subscript_ ?_
    have hcell : s₃.heap.IsCell (s.heap.objs.size + 1) (some (.ref pa)) := ⟨o, S₃.base (S.mem (.head _)), by rw [hd]; rfl⟩
    refine r_cell (by walk_at "nm") hcell ?_ (by walk_at "nm") (by walk_at "nm") (by walk_at "nm")
    walk_at "ld"
    have hv'' : vs[j]? = some v := by simpa using hv'
    obtain ⟨b, tb, hbj, rfl⟩ := ints_at hv hv''
    have hbb := hb b (List.mem_of_getElem? hbj)
    have ht : IsTup s₃.heap pa [Value.str p0 t0, .str p1 t1].toArray := ⟨_, S₃.base (S.base hp), rfl, _, rfl⟩
    have fin : ∀ x u, x = ltr p0 p1 b → ∃ m'' nw'', St s₂ C m'' ((I, oo) :: (Dd, lO (strValues l) k) :: nw'') s₃ ∧ nw'' = [] ∧ ∃ l' : List (Str × Tok), strValues l ++ [.str x u] = strValues l' ∧ l'.map (·.1) = (bs.take (j + 1)).map (ltr p0 p1) := fun x u hx =>
      ⟨_, _, S₃, rfl, l ++ [(x, u)], strValues_snoc .., by rw [List.take_add_one, hbj]; simp [hl', hx]⟩
    rcases hbb with rfl | rfl
    · refine item_tupleL (j := 0) (x := .str p0 t0) ht (by decide) (by decide) (by rfl) rfl ?_
      exact fin _ _ rfl
    · refine item_tupleL (j := 1) (x := .str p1 t1) ht (by decide) (by decide) (by rfl) rfl ?_
      exact fin _ _ rfl
  · rintro Dd k ys m' nw' s' ⟨rfl, l, rfl, hl'⟩ Md
    have S₃ := S.join Md
    refine spliced_none ?_
    have hn : vs.toArray.size = bs.length := by rw [List.size_toArray, ints_len hv]
    rw [hn, List.take_length] at hl'
    refine r_join S₃ (lO_list (S₃.mem (.head _))) hl' (joinOk_small ?_ (by decide) (by simp; omega)) fun u s₄ S₄ => ?_
    · intro x hx
      obtain ⟨b, _, rfl⟩ := List.mem_map.mp hx
      unfold ltr; split <;> assumption
    · exact h u _ S₄.ext
end partMine6
section partMine7
set_option autoImplicit false
local macro_rules | `(tactic| walk_at "nm") => `(tactic| kernel_rfl)
local macro_rules | `(tactic| walk_at "ld") => `(tactic| refine r_local (by assumption) (by rfl) ?_ (by kernel_rfl) (by kernel_rfl) (by kernel_rfl) (by kernel_rfl))
section
variable {w : World} {A : Around} {E : Value → Shared → Prop} {s₀ s : Shared} {L : Addr} {m : Str → Option Value} {news : Nw} {env : Env}
theorem St.new {h' : Heap} {o : Obj} {a : Addr} {d : Drawn} {k : Nat} (S : St s₀ L m news s) (F' : Fr s₀.heap L h' m) (N' : News s₀.heap L h' news) (ho : h'.get? a = some o) (ha : s.heap.objs.size ≤ a) :
    St s₀ L m ((a, o) :: news) ⟨h', s.gens, d, k, s.os⟩ := by
  have fresh : s.heap.get? a = none := by
    cases e : s.heap.get? a with
    | none => rfl
    | some o' => exact absurd (Heap.lt_size e) (Nat.not_lt.mpr ha)
  refine ⟨F', fun p hp => ?_, ?_, S.gens, S.os⟩
  · rcases List.mem_cons.mp hp with rfl | hp
    · refine ⟨ho, fun q => absurd S.lt (Nat.not_lt.mpr (q ▸ ha)), ?_⟩
      cases q : s₀.heap.get? a with
      | none => rfl
      | some o' => have := S.fr.keep _ _ q; rw [fresh] at this; cases this
    · exact N' p hp
  · rw [List.map_cons, List.nodup_cons]
    refine ⟨fun hm => ?_, S.nd⟩
    obtain ⟨⟨b, ob⟩, hp, rfl⟩ := List.mem_map.mp hm
    exact absurd (Heap.lt_size (S.nw _ hp).1) (Nat.not_lt.mpr ha)
theorem r_newlist {vs : List Value} {Q : Value → Shared → Prop} (S : St s₀ L m news s) (hsz : vs.length ≤ 1000) (h : ∀ a s', St s₀ L m ((a, lO vs 0) :: news) s' → Q (.ref a) s') : wpAny (model P0 w) A (newList vs) Q E s :=
  newList_N S.fr S.nw (fun h' F' N' => h _ _ (S.new (d := s.drawn) (k := s.toks) F' (fun p hp => N' p (.tail _ hp)) (N' _ (.head _)).1 (Nat.le_refl _))) (by rw [sizeLine_eq]; omega)
theorem r_newtuple {vs : List Value} {Q : Value → Shared → Prop} (S : St s₀ L m news s) (hsz : vs.length ≤ 1000) (h : ∀ a s', St s₀ L m ((a, tO vs) :: news) s' → Q (.ref a) s') : wpAny (model P0 w) A (newTuple vs) Q E s :=
  newTuple_N S.fr S.nw (fun h' F' N' => h _ _ (S.new (d := s.drawn) (k := s.toks) F' (fun p hp => N' p (.tail _ hp)) (N' _ (.head _)).1 (Nat.le_refl _))) (by rw [sizeLine_eq]; omega)
theorem r_sub {a b : Int} {t u : Tok} {Q : Value → Shared → Prop} (S : St s₀ L m news s) (h : ∀ t s', St s₀ L m news s' → Q (.int (a - b) t) s') : wpAny (model P0 w) A (binaryOp .Sub (.int a t) (.int b u)) Q E s := sub_int (h _ _ S.tok)
theorem r_mod {a b : Int} {t u : Tok} {Q : Value → Shared → Prop} (S : St s₀ L m news s) (hb : b ≠ 0) (h : ∀ t s', St s₀ L m news s' → Q (.int (a.fmod b) t) s') : wpAny (model P0 w) A (binaryOp .Mod (.int a t) (.int b u)) Q E s := mod_int' hb (h _ _ S.tok)
theorem r_fdiv {a b : Int} {t u : Tok} {Q : Value → Shared → Prop} (S : St s₀ L m news s) (hb : b ≠ 0) (hp : Builtin.divisionGoesByPylong a b = false) (h : ∀ t s', St s₀ L m news s' → Q (.int (a.fdiv b) t) s') : wpAny (model P0 w) A (binaryOp .FloorDiv (.int a t) (.int b u)) Q E s := floordiv_int hb (h _ _ S.tok) (.inl hp)
theorem r_pow {a n : Int} {t u : Tok} {Q : Value → Shared → Prop} (S : St s₀ L m news s) (h0 : 0 ≤ n) (h1 : n ≤ 1000) (ha : a.natAbs < 2 ^ 64) (h : ∀ t s', St s₀ L m news s' → Q (.int (a ^ n.toNat) t) s') : wpAny (model P0 w) A (binaryOp .Pow (.int a t) (.int n u)) Q E s := pow_int_small h0 (by omega) ha (h _ _ S.tok)
theorem r_neg {a : Int} {t : Tok} {Q : Value → Shared → Prop} (S : St s₀ L m news s) (h : ∀ t s', St s₀ L m news s' → Q (.int (-a) t) s') : wpAny (model P0 w) A (unaryOp .USub (.int a t)) Q E s := neg_int (h _ _ S.tok)
theorem r_addstr {x y : Str} {t u : Tok} {Q : Value → Shared → Prop} (S : St s₀ L m news s) (hl : x.length + y.length ≤ 10000) (h : ∀ t s', St s₀ L m news s' → Q (.str (x ++ y) t) s') : wpAny (model P0 w) A (binaryOp .Add (.str x t) (.str y u)) Q E s := add_str (fun _ _ => h _ _ S.tok) (by rw [sizeLine_eq]; omega)
theorem r_iaddstr {x y : Str} {t u : Tok} {Q : Value → Shared → Prop} (S : St s₀ L m news s) (hl : x.length + y.length ≤ 10000) (h : ∀ t s', St s₀ L m news s' → Q (.str (x ++ y) t) s') : wpAny (model P0 w) A (inplaceOp .Add (.str x t) (.str y u)) Q E s := iadd_str (fun _ _ => h _ _ S.tok) (by rw [sizeLine_eq]; omega)
theorem r_iadd {a b : Int} {t u : Tok} {Q : Value → Shared → Prop} (S : St s₀ L m news s) (h : ∀ t s', St s₀ L m news s' → Q (.int (a + b) t) s') : wpAny (model P0 w) A (inplaceOp .Add (.int a t) (.int b u)) Q E s := iadd_int (h _ _ S.tok)
theorem r_isub {a b : Int} {t u : Tok} {Q : Value → Shared → Prop} (S : St s₀ L m news s) (h : ∀ t s', St s₀ L m news s' → Q (.int (a - b) t) s') : wpAny (model P0 w) A (inplaceOp .Sub (.int a t) (.int b u)) Q E s := isub_int (h _ _ S.tok)
theorem r_lenlist {l : Addr} {vs : List Value} {Q : Value → Shared → Prop} (S : St s₀ L m news s) (hl : s.heap.IsList l vs.toArray) (hz : vs.length ≤ 10000) (h : ∀ t s', St s₀ L m news s' → Q (.int vs.length t) s') : wpAny (model P0 w) A (call (.builtin "len") [.ref l]) Q E s :=
  call_len_list hl (by rw [List.size_toArray]; omega) (by rw [List.size_toArray]; exact h _ _ S.tok)
theorem r_lenstr {x : Str} {t : Tok} {Q : Value → Shared → Prop} (S : St s₀ L m news s) (hz : x.length ≤ 10000) (h : ∀ t s', St s₀ L m news s' → Q (.int x.length t) s') : wpAny (model P0 w) A (call (.builtin "len") [.str x t]) Q E s :=
  P.len_str (by omega) (h _ _ S.tok)
theorem r_truthystr {x : Str} {t : Tok} {Q : Bool → Shared → Prop} (S : St s₀ L m news s) (hz : x.length ≤ 10000) (h : ∀ s', St s₀ L m news s' → Q ((x.length : Int) != 0) s') : wpAny (model P0 w) A (truthy (.str x t)) Q E s :=
  P.truthy_str (by omega) (h _ S.tok)
theorem r_chr {i : Int} {t : Tok} {Q : Value → Shared → Prop} (S : St s₀ L m news s) (h0 : 0 ≤ i) (h1 : i ≤ 1114111) (h : ∀ t s', St s₀ L m news s' → Q (.str ⟨#[i.toNat]⟩ t) s') : wpAny (model P0 w) A (call (.builtin "chr") [.int i t]) Q E s :=
  P.chr_of_int (by simp; omega) (h _ _ S.tok)
theorem r_range1 {n : Int} {t : Tok} {Q : Value → Shared → Prop} (S : St s₀ L m news s) (h : ∀ r u v s', St s₀ L m ((r, { cls := .type "range", data := .fields #[.int 0 u, .int n t, .int 1 v] }) :: news) s' → Q (.ref r) s') :
    wpAny (model P0 w) A (call (.type "range") [.int n t]) Q E s :=
  call_range_1 (h _ _ _ _ (S.new (d := s.drawn) (S.fr.push _) (fun p hp => (S.nw.push S.fr _ rfl) p (.tail _ hp)) (Heap.get?_push_size _ rfl) (Nat.le_refl _)))
theorem r_range2 {a b : Int} {t u : Tok} {Q : Value → Shared → Prop} (S : St s₀ L m news s) (h : ∀ r v s', St s₀ L m ((r, { cls := .type "range", data := .fields #[.int a t, .int b u, .int 1 v] }) :: news) s' → Q (.ref r) s') :
    wpAny (model P0 w) A (call (.type "range") [.int a t, .int b u]) Q E s :=
  call_range_2 (h _ _ _ (S.new (d := s.drawn) (S.fr.push _) (fun p hp => (S.nw.push S.fr _ rfl) p (.tail _ hp)) (Heap.get?_push_size _ rfl) (Nat.le_refl _)))
theorem r_joinstr {x y : Str} {t u : Tok} {Q : Value → Shared → Prop} (S : St s₀ L m news s) (hh : A.handled = none) (hx : x.length ≤ 100) (hy : y.length ≤ 1000) (h : ∀ t s', St s₀ L m news s' → Q (.str (Txt.join x (signs y)) t) s') :
    wpAny (model P0 w) A (call (.builtin "str.join") [.str x t, .str y u]) Q E s :=
  SC.joinStr hh (joinOk_signsN (N := 1000) (S := 100) hy hx (by decide)) fun h' k t' hk => h t' _ (S.step ⟨hk, rfl, rfl⟩)
theorem r_addlist {l b : Addr} {xs ys : List Value} {Q : Value → Shared → Prop} (S : St s₀ L m news s) (hl : s.heap.IsList l xs.toArray) (hb : s.heap.IsList b ys.toArray) (hz : xs.length + ys.length ≤ 10000)
    (h : ∀ a s', St s₀ L m ((a, lO (xs ++ ys) 0) :: news) s' → Q (.ref a) s') : wpAny (model P0 w) A (binaryOp .Add (.ref l) (.ref b)) Q E s :=
  add_arrays S.fr S.nw hl hb (fun h' F' N' => h _ _ (S.new (d := s.drawn) (k := s.toks) F' (fun p hp => N' p (.tail _ hp)) (N' _ (.head _)).1 (Nat.le_refl _))) (by rw [sizeLine_eq]; simp; omega)
theorem ints_get {vs : List Value} {ns : List Int} (h : IntsAre vs ns) : ∀ {i : Nat} {n : Int}, ns[i]? = some n → ∃ t, vs[i]? = some (.int n t) := by
  induction h with
  | nil => intro i v e; simp at e
  | cons n t _ ih =>
    intro i v e
    cases i with
    | zero => simp at e; exact ⟨t, by simp [e]⟩
    | succ i => exact ih (i := i) (by simpa using e)
theorem ints_app {vs us : List Value} {ns ms : List Int} (h : IntsAre vs ns) (g : IntsAre us ms) : IntsAre (vs ++ us) (ns ++ ms) := by
  induction h with
  | nil => exact g
  | cons n t _ ih => exact .cons n t ih
end
def dotsOf (x : Str) : Str := "..." ++ Txt.join "..." (signs x) ++ "..."
theorem join_len {sep : Str} (hs : sep.length ≤ 3) : ∀ (l : List Str), (∀ x ∈ l, x.length ≤ 1) → (Txt.join sep l).length ≤ 4 * l.length := by
  intro l h
  have h1 := StrLaws.join_length_le sep l
  have h2 : (l.map (·.length)).sum ≤ l.length := by
    clear h1
    induction l with
    | nil => simp
    | cons x l ih =>
      have := ih (fun y hy => h y (.tail _ hy))
      have := h x (.head _)
      simp only [List.map_cons, List.sum_cons, List.length_cons]; omega
  have h3 : l.length * sep.length ≤ l.length * 3 := Nat.mul_le_mul_left _ hs
  unfold Txt.join
  rw [StrLaws.glued_eq_join]
  omega
theorem c_dots {w : World} {A : Around} {E : Value → Shared → Prop} {s : Shared} {mg mb : Str → Option Value} {a : Addr} {x : Str} {t : Tok} {Q : Value → Shared → Prop}
    (R : Room A 1) (G : Gl w mg mb s.heap) (F : FnAt s.heap (D 22) a) (hx : x.length ≤ 100)
    (h : ∀ u s', Ext s s' → Q (.str (dotsOf x) u) s') : wpAny (model P0 w) A (call (.ref a) [.str x t]) Q E s := by
  refine enter (binds := [("text", .str x t)]) R F G.nolimit (fun _ _ _ => rfl) (by kernel_rfl) (by decide +kernel) (fun cd s₁ cells S X => ?_) (by intro n; exact List.nodup_nil)
  have hj : (Txt.join "..." (signs x)).length ≤ 400 := by
    have := join_len (sep := "...") (by decide) (signs x) (by intro y hy; obtain ⟨c, _, rfl⟩ := List.mem_map.mp hy; exact Nat.le_refl 1)
    rw [signs_length] at this; omega
  have h3 : (Str.ofString "...").length = 3 := by decide
  refine wpAny_execs_cons (wpAny_Return_some ?_)
  refine wpAny_BinOp (wpAny_BinOp ?_)
  refine r_str S fun t₂ s₂ S => ?_
  refine MethodCall_ ?_
  refine r_str S fun t₃ s₃ S => ?_
  refine GM.join ?_
  refine callWith_method1 ?_
  refine spliced_more ?_ (star_of nofun)
  walk_at "ld"
  refine spliced_none ?_
  refine r_joinstr S (R.deeper (env := default)).handled (by decide) (by omega) fun t₄ s₄ S => ?_
  refine r_addstr S (by rw [h3]; omega) fun t₅ s₅ S => ?_
  refine r_str S fun t₆ s₆ S => ?_
  refine r_addstr S (by rw [Str.length_append, h3]; omega) fun t₇ s₇ S => ?_
  exact h _ _ S.ext
end partMine7
section partMine8
set_option autoImplicit false
local macro_rules | `(tactic| walk_at "nm") => `(tactic| kernel_rfl)
local macro_rules | `(tactic| walk_at "ld") => `(tactic| ((with_reducible refine r_local (v := ?vv) (by assumption) ?lv ?_ ?lk ?ll ?lL ?ld); (case lv => rfl); (case lk => kernel_rfl); (case ll => kernel_rfl); (case lL => kernel_rfl); (case ld => kernel_rfl)))
local macro_rules | `(tactic| walk_at "bi list") => `(tactic| ((with_reducible refine r_builtin (v := .type "list") (by assumption) (by assumption) ?b1 ?b2 ?b3 ?_ ?b4 ?b5 ?b6 ?b7 ?b8); (case b1 => decide +kernel); (case b2 => decide +kernel); (case b3 => kernel_rfl); (case b4 => kernel_rfl); (case b5 => kernel_rfl); (case b6 => kernel_rfl); (case b7 => kernel_rfl); (case b8 => kernel_rfl)))
local macro_rules | `(tactic| walk_at "bi range") => `(tactic| ((with_reducible refine r_builtin (v := .type "range") (by assumption) (by assumption) ?b1 ?b2 ?b3 ?_ ?b4 ?b5 ?b6 ?b7 ?b8); (case b1 => decide +kernel); (case b2 => decide +kernel); (case b3 => kernel_rfl); (case b4 => kernel_rfl); (case b5 => kernel_rfl); (case b6 => kernel_rfl); (case b7 => kernel_rfl); (case b8 => kernel_rfl)))
local macro_rules | `(tactic| walk_at "bi sum") => `(tactic| ((with_reducible refine r_builtin (v := .builtin "sum") (by assumption) (by assumption) ?b1 ?b2 ?b3 ?_ ?b4 ?b5 ?b6 ?b7 ?b8); (case b1 => decide +kernel); (case b2 => decide +kernel); (case b3 => kernel_rfl); (case b4 => kernel_rfl); (case b5 => kernel_rfl); (case b6 => kernel_rfl); (case b7 => kernel_rfl); (case b8 => kernel_rfl)))
local macro_rules | `(tactic| walk_at "bi len") => `(tactic| ((with_reducible refine r_builtin (v := .builtin "len") (by assumption) (by assumption) ?b1 ?b2 ?b3 ?_ ?b4 ?b5 ?b6 ?b7 ?b8); (case b1 => decide +kernel); (case b2 => decide +kernel); (case b3 => kernel_rfl); (case b4 => kernel_rfl); (case b5 => kernel_rfl); (case b6 => kernel_rfl); (case b7 => kernel_rfl); (case b8 => kernel_rfl)))
local macro_rules | `(tactic| walk_at "bi ord") => `(tactic| ((with_reducible refine r_builtin (v := .builtin "ord") (by assumption) (by assumption) ?b1 ?b2 ?b3 ?_ ?b4 ?b5 ?b6 ?b7 ?b8); (case b1 => decide +kernel); (case b2 => decide +kernel); (case b3 => kernel_rfl); (case b4 => kernel_rfl); (case b5 => kernel_rfl); (case b6 => kernel_rfl); (case b7 => kernel_rfl); (case b8 => kernel_rfl)))
local macro_rules | `(tactic| walk_at "bi chr") => `(tactic| ((with_reducible refine r_builtin (v := .builtin "chr") (by assumption) (by assumption) ?b1 ?b2 ?b3 ?_ ?b4 ?b5 ?b6 ?b7 ?b8); (case b1 => decide +kernel); (case b2 => decide +kernel); (case b3 => kernel_rfl); (case b4 => kernel_rfl); (case b5 => kernel_rfl); (case b6 => kernel_rfl); (case b7 => kernel_rfl); (case b8 => kernel_rfl)))
local macro_rules | `(tactic| walk_at "more") => `(tactic| ((with_reducible refine spliced_more ?_ ?hs); (case hs => exact star_of nofun)))
local macro_rules | `(tactic| walk_at "ci") => `(tactic| (walk_at "more"; with_reducible refine r_int (by assumption) (fun _ _ _ => ?_)))
local macro_rules | `(tactic| walk_at "as") => `(tactic| ((with_reducible refine wpAny_Assign_Name ?h ?hs); (case hs => kernel_rfl)))
local macro_rules | `(tactic| walk_at "call") => `(tactic| ((with_reducible refine Call_ ?_ ?hc); (case hc => exact rfl)))
local macro_rules | `(tactic| walk_at "st") => `(tactic| ((with_reducible refine r_store (by assumption) (fun _ _ => ?_) ?h1 ?h2 ?h3); (case h1 => kernel_rfl); (case h2 => kernel_rfl); (case h3 => kernel_rfl)))
def besideL : List Int := [172, 174, 846, 848, 6149, 6151, 6154, 6158, 8202, 8206, 8287, 8289, 65023, 65040, 65278, 65280]
def unseenC (i : Int) : Int := b1L.getD (i.fmod 27).toNat 0
def besideC (i : Int) : Int := besideL.getD (i.fmod 16).toNat 0
theorem fmod_lt {i n : Int} (hn : 0 < n) : 0 ≤ i.fmod n ∧ i.fmod n < n := ⟨Int.fmod_nonneg_of_pos _ hn, Int.fmod_lt_of_pos _ hn⟩
theorem carried_ints : ∀ {ys : List Value} {ns : List Int}, CarriedAll ys (ns.map PyData.int) → IntsAre ys ns
  | _, [], .nil => .nil
  | _, _ :: _, .cons (.int _ t) r => .cons _ t (carried_ints r)
theorem r_item_ints {w : World} {A : Around} {E : Value → Shared → Prop} {s : Shared} {value slice : Expr} {l : Addr} {vs : List Value} {ns : List Int} {k : Int} {u : Tok} {Q : Value → Shared → Prop} (hl : s.heap.IsList l vs.toArray) (hi : IntsAre vs ns) (h0 : 0 ≤ k) (hk : k.toNat < ns.length) (hz : ns.length ≤ 10000)
    (h : ∀ u, Q (.int (ns.getD k.toNat 0) u) s)
    (hs : subscripted slice false (.ref l) (.int k u) = operate [.ref l, .int k u] (getItem (.ref l) (.int k u)) := by with_unfolding_all rfl) (hg : ∀ r, letTemporaryGo value (.ref l) r = pure () := by intro _; with_unfolding_all rfl) :
    wpAny (model P0 w) A (subscriptTail value slice (.ref l) (.int k u)) Q E s := by
  obtain ⟨t, ht⟩ := ints_get hi (i := k.toNat) (n := ns.getD k.toNat 0) (by rw [List.getD_eq_getElem?_getD, List.getElem?_eq_getElem hk]; rfl)
  exact item_listL hl h0 (by omega) ht (h t) hs hg
section
variable {w : World} {A : Around} {E : Value → Shared → Prop} {s : Shared} {mg mb : Str → Option Value}
set_option maxHeartbeats 1000000 in
theorem c_beside {a : Addr} {i : Int} {t : Tok} {Q : Value → Shared → Prop} (R : Room A 1) (G : Gl w mg mb s.heap) (F : FnAt s.heap (D 17) a)
    (h : ∀ u s', Ext s s' → Q (.str ⟨#[(besideC i).toNat]⟩ u) s') : wpAny (model P0 w) A (call (.ref a) [.int i t]) Q E s := by
  refine enter (binds := [("which", .int i t)]) R F G.nolimit (fun _ _ _ => rfl) (by kernel_rfl) (by decide +kernel) (fun cd s₁ cells S X => ?_) (by intro n; exact List.nodup_nil)
  refine wpAny_execs_cons ?_
  walk_at "as"
  with_reducible refine List_ ?_
  iterate 16 walk_at "ci"
  with_reducible refine spliced_none ?_
  refine r_newlist (by assumption) (by simp) fun l s₂ S₂ => ?_
  with_reducible refine r_store S₂ (fun s₃ S₃ => ?_) ?h1 ?h2 ?h3
  case h1 => kernel_rfl
  case h2 => kernel_rfl
  case h3 => kernel_rfl
  with_reducible refine wpAny_execs_cons ?_
  with_reducible refine wpAny_Return_some ?_
  walk_at "call"
  walk_at "bi chr"
  refine PyProof.Rows.callWith_builtin1 ?_
  walk_at "more"
  with_reducible refine Subscript_ ?_
  walk_at "ld"
  with_reducible refine wpAny_BinOp ?_
  walk_at "ld"
  with_reducible refine r_int S₃ fun t₂ s₄ S₄ => ?_
  refine r_mod S₄ (by decide) fun t₃ s₅ S₅ => ?_
  obtain ⟨k0, k1⟩ := fmod_lt (i := i) (n := 16) (by decide)
  have hlt : (i.fmod 16).toNat < besideL.length := by show _ < 16; omega
  refine r_item_ints (ns := besideL) (lO_list (S₅.mem (.head _))) (by repeat (first | exact .nil | refine .cons _ _ ?_)) k0 hlt (by decide) fun u => ?_
  with_reducible refine spliced_none ?_
  have hall : ∀ x ∈ besideL, 0 ≤ x ∧ x ≤ 1114111 := by decide
  have hm : besideC i ∈ besideL := by unfold besideC; rw [List.getD_eq_getElem?_getD, List.getElem?_eq_getElem hlt]; exact List.getElem_mem hlt
  refine r_chr S₅ (hall _ hm).1 (hall _ hm).2 fun t₄ s₆ S₆ => ?_
  exact h _ _ S₆.ext

set_option maxHeartbeats 1000000 in
theorem c_unseen {a : Addr} {i : Int} {t : Tok} {Q : Value → Shared → Prop} (R : Room A 1) (G : Gl w mg mb s.heap) (F : FnAt s.heap (D 16) a)
    (h : ∀ u s', Ext s s' → Q (.str ⟨#[(unseenC i).toNat]⟩ u) s') : wpAny (model P0 w) A (call (.ref a) [.int i t]) Q E s := by
  refine enter (binds := [("which", .int i t)]) R F G.nolimit (fun _ _ _ => rfl) (by kernel_rfl) (by decide +kernel) (fun cd s₁ cells S X => ?_) (by intro n; exact List.nodup_nil)
  have hh := (R.deeper (env := envOfC (D 16).name (D 16).scope s.heap.objs.size a cd)).handled
  refine wpAny_execs_cons ?_
  walk_at "as"
  with_reducible refine wpAny_BinOp ?_
  with_reducible refine List_ ?_
  iterate 11 walk_at "ci"
  with_reducible refine spliced_none ?_
  refine r_newlist (by assumption) (by simp) fun l s₂ S₂ => ?_
  walk_at "call"
  walk_at "bi list"
  refine PyProof.Rows.callWith_type1 ?_
  walk_at "more"
  walk_at "call"
  walk_at "bi range"
  refine PyProof.Rows.callWith_type1 ?_
  walk_at "more"
  with_reducible refine r_int S₂ fun t₂ s₃ S₃ => ?_
  walk_at "more"
  with_reducible refine r_int S₃ fun t₃ s₄ S₄ => ?_
  with_reducible refine spliced_none ?_
  refine r_range2 S₄ fun r v s₅ S₅ => ?_
  with_reducible refine spliced_none ?_
  refine list_rangeD (n := 16) hh S₅.fr S₅.nw (S₅.mem (.head _)) (by decide +kernel) (by decide +kernel) (by decide) (fun h' tk ys F' N' hk hn hl hp hc => ?_)
  have S₆ := S₅.step (s' := ⟨h', s₅.gens, s₅.drawn, tk, s₅.os⟩) ⟨hk, rfl, rfl⟩
  have hy := carried_ints hc
  refine r_addlist S₆ (lO_list (S₆.mem (.tail _ (.head _)))) hl ?_ fun l2 s₇ S₇ => ?_
  · rw [ints_len hy]; simp [rangeInts]
  with_reducible refine r_store S₇ (fun s₈ S₈ => ?_) ?h1 ?h2 ?h3
  case h1 => kernel_rfl
  case h2 => kernel_rfl
  case h3 => kernel_rfl
  with_reducible refine wpAny_execs_cons ?_
  with_reducible refine wpAny_Return_some ?_
  walk_at "call"
  walk_at "bi chr"
  refine PyProof.Rows.callWith_builtin1 ?_
  walk_at "more"
  with_reducible refine Subscript_ ?_
  walk_at "ld"
  with_reducible refine wpAny_BinOp ?_
  walk_at "ld"
  with_reducible refine r_int S₈ fun t₄ s₉ S₉ => ?_
  refine r_mod S₉ (by decide) fun t₅ s₁₀ S₁₀ => ?_
  obtain ⟨k0, k1⟩ := fmod_lt (i := i) (n := 27) (by decide)
  have eL : ([173, 847, 6150, 6155, 6156, 6157, 8203, 8204, 8205, 8288, 65279] ++ rangeInts 65024 1 16 : List Int) = b1L := by decide +kernel
  have hlt : (i.fmod 27).toNat < b1L.length := by show _ < 27; omega
  refine r_item_ints (ns := b1L) (lO_list (S₁₀.mem (.head _))) (eL ▸ ints_app (by repeat (first | exact .nil | refine .cons _ _ ?_)) hy) k0 hlt (by decide) fun u => ?_
  with_reducible refine spliced_none ?_
  have hall : ∀ x ∈ b1L, 0 ≤ x ∧ x ≤ 1114111 := by decide +kernel
  have hm : unseenC i ∈ b1L := by unfold unseenC; rw [List.getD_eq_getElem?_getD, List.getElem?_eq_getElem hlt]; exact List.getElem_mem hlt
  refine r_chr S₁₀ (hall _ hm).1 (hall _ hm).2 fun t₆ s₁₁ S₁₁ => ?_
  exact h _ _ S₁₁.ext
end
end partMine8
section walked
local macro_rules | `(tactic| walk_at "nm") => `(tactic| kernel_rfl)
local macro_rules | `(tactic| walk_at "ld") => `(tactic| ((with_reducible refine r_local (v := ?vv) (by assumption) ?lv ?_ ?lk ?ll ?lL ?ld); (case lv => rfl); (case lk => kernel_rfl); (case ll => kernel_rfl); (case lL => kernel_rfl); (case ld => kernel_rfl)))
local macro_rules | `(tactic| walk_at "bi list") => `(tactic| ((with_reducible refine r_builtin (v := .type "list") (by assumption) (by assumption) ?b1 ?b2 ?b3 ?_ ?b4 ?b5 ?b6 ?b7 ?b8); (case b1 => decide +kernel); (case b2 => decide +kernel); (case b3 => kernel_rfl); (case b4 => kernel_rfl); (case b5 => kernel_rfl); (case b6 => kernel_rfl); (case b7 => kernel_rfl); (case b8 => kernel_rfl)))
local macro_rules | `(tactic| walk_at "bi range") => `(tactic| ((with_reducible refine r_builtin (v := .type "range") (by assumption) (by assumption) ?b1 ?b2 ?b3 ?_ ?b4 ?b5 ?b6 ?b7 ?b8); (case b1 => decide +kernel); (case b2 => decide +kernel); (case b3 => kernel_rfl); (case b4 => kernel_rfl); (case b5 => kernel_rfl); (case b6 => kernel_rfl); (case b7 => kernel_rfl); (case b8 => kernel_rfl)))
local macro_rules | `(tactic| walk_at "bi sum") => `(tactic| ((with_reducible refine r_builtin (v := .builtin "sum") (by assumption) (by assumption) ?b1 ?b2 ?b3 ?_ ?b4 ?b5 ?b6 ?b7 ?b8); (case b1 => decide +kernel); (case b2 => decide +kernel); (case b3 => kernel_rfl); (case b4 => kernel_rfl); (case b5 => kernel_rfl); (case b6 => kernel_rfl); (case b7 => kernel_rfl); (case b8 => kernel_rfl)))
local macro_rules | `(tactic| walk_at "bi len") => `(tactic| ((with_reducible refine r_builtin (v := .builtin "len") (by assumption) (by assumption) ?b1 ?b2 ?b3 ?_ ?b4 ?b5 ?b6 ?b7 ?b8); (case b1 => decide +kernel); (case b2 => decide +kernel); (case b3 => kernel_rfl); (case b4 => kernel_rfl); (case b5 => kernel_rfl); (case b6 => kernel_rfl); (case b7 => kernel_rfl); (case b8 => kernel_rfl)))
local macro_rules | `(tactic| walk_at "bi ord") => `(tactic| ((with_reducible refine r_builtin (v := .builtin "ord") (by assumption) (by assumption) ?b1 ?b2 ?b3 ?_ ?b4 ?b5 ?b6 ?b7 ?b8); (case b1 => decide +kernel); (case b2 => decide +kernel); (case b3 => kernel_rfl); (case b4 => kernel_rfl); (case b5 => kernel_rfl); (case b6 => kernel_rfl); (case b7 => kernel_rfl); (case b8 => kernel_rfl)))
local macro_rules | `(tactic| walk_at "bi chr") => `(tactic| ((with_reducible refine r_builtin (v := .builtin "chr") (by assumption) (by assumption) ?b1 ?b2 ?b3 ?_ ?b4 ?b5 ?b6 ?b7 ?b8); (case b1 => decide +kernel); (case b2 => decide +kernel); (case b3 => kernel_rfl); (case b4 => kernel_rfl); (case b5 => kernel_rfl); (case b6 => kernel_rfl); (case b7 => kernel_rfl); (case b8 => kernel_rfl)))
local macro_rules | `(tactic| walk_at "more") => `(tactic| ((with_reducible refine spliced_more ?_ ?hs); (case hs => exact star_of nofun)))
local macro_rules | `(tactic| walk_at "ci") => `(tactic| (walk_at "more"; with_reducible refine r_int (by assumption) (fun _ _ _ => ?_)))
local macro_rules | `(tactic| walk_at "as") => `(tactic| ((with_reducible refine wpAny_Assign_Name ?h ?hs); (case hs => kernel_rfl)))
local macro_rules | `(tactic| walk_at "call") => `(tactic| ((with_reducible refine Call_ ?_ ?hc); (case hc => exact rfl)))
local macro_rules | `(tactic| walk_at "st") => `(tactic| ((with_reducible refine r_store (by assumption) (fun _ _ => ?_) ?h1 ?h2 ?h3); (case h1 => kernel_rfl); (case h2 => kernel_rfl); (case h3 => kernel_rfl)))
local macro_rules | `(tactic| walk_at "gl") => `(tactic| ((with_reducible refine r_global (v := ?vv) (by assumption) (by assumption) ?hg ?_ ?k1 ?k2 ?k3 ?k4); (case hg => assumption); (case k1 => kernel_rfl); (case k2 => kernel_rfl); (case k3 => kernel_rfl); (case k4 => kernel_rfl)))
local macro_rules | `(tactic| walk_at "for") => `(tactic| ((with_reducible refine r_for (by assumption) ?_ ?hs ?ht); (case hs => (intro _; rfl)); (case ht => (intro _ _; rfl))))
local macro_rules | `(tactic| walk_at "ret") => `(tactic| (with_reducible refine wpAny_Return_some ?_))
local macro_rules | `(tactic| walk_at "ec") => `(tactic| (with_reducible refine wpAny_execs_cons ?_))
local macro_rules | `(tactic| walk_at "if") => `(tactic| (with_reducible refine wpAny_If (wpAny_isTrue_Compare1 ?_)))
local macro_rules | `(tactic| walk_at "sp0") => `(tactic| (with_reducible refine spliced_none ?_))
section partMine9
set_option autoImplicit false
section
variable {w : World} {A : Around} {E : Value → Shared → Prop} {s₀ s : Shared} {L : Addr} {m : Str → Option Value} {news : Nw} {env : Env} {mg mb : Str → Option Value}
theorem r_for {target iter : Expr} {body : List Stmt} {pos : Pos} {Q : Flow → Shared → Prop} (_S : St s₀ L m news s)
    (h : wpAny (model P0 w) A (eval iter env) (fun xv s₁ => ∃ (n : Nat) (P : Nat → Value → Prop) (m : Str → Option Value) (news : Nw) (J : Nat → (Str → Option Value) → Nw → Prop), Src w A xv s₁ n P ∧ St s₀ L m news s₁ ∧ J 0 m news ∧
      (∀ j m' nw', J j m' nw' → ∀ b, Value.ref b = xv → ∀ o, s₁.heap.get? b = some o → s₀.heap.get? b = some o ∨ (b, o) ∈ nw') ∧
      (∀ I j v o m' nw' s', j < n → P j v → J j m' nw' → St s₀ L m' ((I, o) :: nw') s' → wpAny (model P0 w) A (assign target env v) (fun _ s₂ => wpAny (model P0 w) A (execs body env) (fun f s₃ => match f with
        | .next | .cont => ∃ m'' nw'', St s₀ L m'' ((I, o) :: nw'') s₃ ∧ J (j + 1) m'' nw''
        | .brk => Q .next s₃
        | .ret v => Q (.ret v) s₃) (fun _ _ => False) s₂) (fun _ _ => False) s') ∧
      (∀ m' nw' s', J n m' nw' → St s₀ L m' nw' s' → Q .next s')) E s)
    (hs : ∀ x, foldedSetIterable iter env x = pure x := by intro _; rfl) (ht : ∀ it v, letOwnedTupleGo target (.ref it) v = pure () := by intro _ _; rfl) :
    wpAny (model P0 w) A (exec (.For target iter body [] pos) env) Q E s := by
  refine wpAny_For (wpAny_mono h (fun xv s₁ h₁ => ?_) fun _ _ e => e) hs
  obtain ⟨n, P, m, news, J, hsrc, S, hJ, hfp, turn, done⟩ := h₁
  refine hsrc _ _ fun I oI fp IS s₂ W hasI e₁₂ hIn hI2 hg hIS hb => ?_
  have S₂ := S.more e₁₂ hIn hI2
  refine for_walk (X := fun e s' => cameBackBy (model P0 w) A env E e s') W hasI S₂ hIS (fun b h1 h2 => let ⟨o, e, _⟩ := hb b h1 h2; ⟨o, e₁₂.keep _ _ e⟩) J hJ (fun j m' nw' hj b h1 h2 o ho => ?_) (fun j v o m' nw' s' => turn I j v o m' nw' s') done (ht I)
  obtain ⟨o', e', hx⟩ := hb b h1 h2
  have := e₁₂.keep _ _ e'
  rw [ho] at this; cases this
  exact hfp j m' nw' hj b hx o e'

inductive ChAre : List Value → List Nat → Prop
  | nil : ChAre [] []
  | cons (c : Nat) (t : Tok) {vs cs} : ChAre vs cs → ChAre (.str ⟨#[c]⟩ t :: vs) (c :: cs)
theorem ChAre.length {vs : List Value} {cs : List Nat} (h : ChAre vs cs) : vs.length = cs.length := by
  induction h with
  | nil => rfl
  | cons _ _ _ ih => simp [ih]
theorem ChAre.at {vs : List Value} {cs : List Nat} (h : ChAre vs cs) : ∀ {i : Nat} {v : Value}, vs[i]? = some v → ∃ c t, cs[i]? = some c ∧ v = .str ⟨#[c]⟩ t := by
  induction h with
  | nil => intro i v e; simp at e
  | cons c t _ ih =>
    intro i v e
    cases i with
    | zero => simp at e; exact ⟨c, t, by simp, e.symm⟩
    | succ i => exact ih (i := i) (by simpa using e)
theorem ChAre.append {vs us : List Value} {cs ds : List Nat} (h : ChAre vs cs) (g : ChAre us ds) : ChAre (vs ++ us) (cs ++ ds) := by
  induction h with
  | nil => exact g
  | cons c t _ ih => exact .cons c t ih
theorem ChAre.take {vs : List Value} {cs : List Nat} (h : ChAre vs cs) : ∀ n, ChAre (vs.take n) (cs.take n) := by
  induction h with
  | nil => intro n; simp; exact .nil
  | cons c t _ ih =>
    intro n
    cases n with
    | zero => exact .nil
    | succ n => exact .cons c t (ih n)
theorem ChAre.drop {vs : List Value} {cs : List Nat} (h : ChAre vs cs) : ∀ n, ChAre (vs.drop n) (cs.drop n) := by
  induction h with
  | nil => intro n; simp; exact .nil
  | cons c t h ih =>
    intro n
    cases n with
    | zero => exact .cons c t h
    | succ n => exact ih n

/-- a sign that the preparing does not trip over -/
structure SignOk (c : Nat) : Prop where
  tab : Spec.lookup (.int c) b3L = none ∨ ∃ x, Spec.lookup (.int c) b3L = some (.str x)
  low : Builtin.Str.tooLong (Txt.lower ⟨#[c]⟩).length = false
  len : (b3of c).length ≤ 10
def prep1 (c : Nat) : Str := if (c : Int) ∈ b1L then Str.ofString "" else b3of c
def prepOf : List Nat → Str
  | [] => Str.ofString ""
  | c :: cs => prep1 c ++ prepOf cs
theorem empty_append' (x : Str) : Str.ofString "" ++ x = x := Str.empty_append x
theorem append_empty' (x : Str) : x ++ Str.ofString "" = x := Str.append_empty x
theorem prepOf_append : ∀ (a b : List Nat), prepOf (a ++ b) = prepOf a ++ prepOf b
  | [], b => (empty_append' _).symm
  | c :: a, b => by
    show prep1 c ++ prepOf (a ++ b) = prep1 c ++ prepOf a ++ prepOf b
    rw [prepOf_append a b, Str.append_assoc]
theorem prepOf_len {cs : List Nat} (h : ∀ c ∈ cs, SignOk c) : (prepOf cs).length ≤ 10 * cs.length := by
  induction cs with
  | nil => decide
  | cons c cs ih =>
    have h1 := ih fun x hx => h x (.tail _ hx)
    have h2 := (h c (.head _)).len
    show (prep1 c ++ prepOf cs).length ≤ _
    rw [Str.length_append, List.length_cons]
    have : (prep1 c).length ≤ 10 := by unfold prep1; split; decide; exact h2
    omega
end
end partMine9
local macro_rules | `(tactic| walk_at "for") => `(tactic| ((with_reducible refine r_for (by assumption) ?_ ?hs ?ht); (case hs => (intro _; rfl)); (case ht => (intro _ _; rfl))))
section partMine10
set_option autoImplicit false
section
variable {w : World} {A : Around} {E : Value → Shared → Prop} {s₀ s : Shared} {L : Addr} {m : Str → Option Value} {news : Nw} {env : Env} {mg mb : Str → Option Value}
theorem Gl.at {h : Heap} (G : Gl w mg mb h) (i : Nat) (hi : i ∈ [2, 4, 7, 11, 12, 13, 15, 16, 17, 18, 19, 20, 21, 22, 23, 24]) (x : Str) (hx : (D i).name = x) : ∃ f, mg x = some (.ref f) ∧ FnAt h (D i) f := hx ▸ G.fn i hi
theorem r_callfn {h : Heap} {d : DefRec} {f : Addr} {pos : Pos} {e : Expr} {rest : List Expr} {Q : Value → Shared → Prop} (F : FnAt h d f)
    (hk : wpAny (model P0 w) A (spliced (backTo pos (starEach (e :: rest) env))) (fun vs s₁ => (∀ o, h.get? f = some o → s₁.heap.get? f = some o) ∧ wpAny (model P0 w) A (call (.ref f) vs) Q E s₁) E s)
    (hs : ∀ x p, e ≠ .Starred x p) : wpAny (model P0 w) A (callWith pos (.ref f) [] (backTo pos (starEach (e :: rest) env)) []) Q E s := by
  obtain ⟨o, pm, cd, doc, h1, h2, h3⟩ := F.ex
  exact callWith_def_at h1 h2 (wpAny_mono hk (fun vs s₁ hh => ⟨hh.1 o h1, hh.2⟩) fun _ _ e => e) (star_of hs)
set_option maxHeartbeats 1000000 in
theorem c_prepared {a ra : Addr} {vs : List Value} {cs : List Nat} {Q : Value → Shared → Prop} (R : Room A 3) (G : Gl w mg mb s.heap) (F : FnAt s.heap (D 21) a)
    (hr : s.heap.IsList ra vs.toArray) (hv : ChAre vs cs) (hok : ∀ c ∈ cs, SignOk c) (hl : cs.length ≤ 20)
    (h : ∀ u s', Ext s s' → Q (.str (prepOf cs) u) s') : wpAny (model P0 w) A (call (.ref a) [.ref ra]) Q E s := by
  refine enter (binds := [("signs", .ref ra)]) R F G.nolimit (fun _ _ _ => rfl) (by kernel_rfl) (by decide +kernel) (fun cd s₁ cells S X => ?_) (by intro n; exact List.nodup_nil)
  have R' : Room (A.deeper (envOfC (D 21).name (D 21).scope s.heap.objs.size a cd)) 2 := R.deeper
  obtain ⟨f1, hf1, F1⟩ := G.at 2 (by decide) "in_table_b1" (by kernel_rfl)
  obtain ⟨f2, hf2, F2⟩ := G.at 4 (by decide) "map_table_b3" (by kernel_rfl)
  refine wpAny_execs_cons ?_
  walk_at "as"
  with_reducible refine r_str (by assumption) fun t₂ s₂ S₂ => ?_
  walk_at "st"
  rename_i s₃ S₃
  walk_at "ec"
  walk_at "for"
  walk_at "ld"
  have hlen := hv.length
  refine ⟨_, _, _, _, fun j m' nw' => nw' = cells ∧ ∃ u, m' "told" = some (.str (prepOf (cs.take j)) u), src_list R'.handled (by obtain ⟨o, e, r⟩ := hr; exact ⟨o, S₃.base e, r⟩), S₃, ⟨rfl, t₂, rfl⟩, ?_, ?_, ?_⟩
  · rintro j m' nw' ⟨rfl, _⟩ b hb o ho
    cases hb
    obtain ⟨o', e, _⟩ := hr
    have := S₃.base e
    rw [ho] at this; cases this
    exact .inl e
  · rintro I j v o m' nw' s' hj hP ⟨rfl, u, hu⟩ S'
    obtain ⟨c, t, hc, rfl⟩ := hv.at (by simpa using hP)
    have hcm := hok c (List.mem_of_getElem? hc)
    have hnext : prepOf (cs.take (j + 1)) = prepOf (cs.take j) ++ prep1 c := by
      rw [List.take_add_one, hc, prepOf_append]
      show _ ++ (prep1 c ++ Str.ofString "") = _
      rw [append_empty']
    have hpl : (prepOf (cs.take j)).length ≤ 10 * (cs.take j).length := prepOf_len fun x hx => hok x (List.mem_of_mem_take hx)
    have hpl' : (prepOf (cs.take j)).length ≤ 200 := by have : (cs.take j).length ≤ cs.length := List.length_take_le' ..; omega
    with_reducible refine PyProof.Rows.assign_Name ?_
    walk_at "st"
    rename_i s₄ S₄
    refine wpAny_execs_cons ?_
    refine wpAny_If ?_
    refine wpAny_isTrue_Compare1 ?_
    walk_at "call"
    walk_at "gl"
    refine r_callfn F1 ?_ nofun
    walk_at "more"
    walk_at "ld"
    refine spliced_none ?_
    refine ⟨fun o e => S₄.base e, ?_⟩
    refine c_in_table_b1 (R'.less (by decide)) (G.keeps S₄.fr.keep) (F1.keeps S₄.fr.keep) fun s₅ e₅ => ?_
    have S₅ := S₄.step e₅
    refine wpAny_Constant_bool ?_
    refine is_bool ?_
    refine wpAny_truthy_bool ?_
    by_cases hb : (c : Int) ∈ b1L
    · rw [decide_eq_true hb]
      rw [if_neg (by decide)]
      refine wpAny_execs_cons ?_
      refine wpAny_If ?_
      refine wpAny_isTrue_Compare1 ?_
      walk_at "call"
      walk_at "gl"
      refine r_callfn F1 ?_ nofun
      walk_at "more"
      walk_at "ld"
      refine spliced_none ?_
      refine ⟨fun o e => S₅.base e, ?_⟩
      refine c_in_table_b1 (R'.less (by decide)) (G.keeps S₅.fr.keep) (F1.keeps S₅.fr.keep) fun s₆ e₆ => ?_
      have S₆ := S₅.step e₆
      refine wpAny_Constant_bool ?_
      refine wpAny_isNot_plain rfl ?_
      refine wpAny_truthy_bool ?_
      rw [decide_eq_true hb]
      rw [if_neg (by decide)]
      refine wpAny_execs_nil ?_
      refine wpAny_execs_nil ?_
      refine wpAny_execs_nil ?_
      exact ⟨_, _, S₆, rfl, u, by rw [hnext]; unfold prep1; rw [if_pos hb, append_empty']; exact hu⟩
    · rw [decide_eq_false hb]
      rw [if_pos (by decide)]
      refine wpAny_execs_cons ?_
      refine wpAny_AugAssign_Name ?_
      refine wpAny_loadName_local ?_ ?_ S₅.fr.ns hu ?_
      · kernel_rfl
      · kernel_rfl
      walk_at "call"
      walk_at "gl"
      refine r_callfn F2 ?_ nofun
      walk_at "more"
      walk_at "ld"
      refine spliced_none ?_
      refine ⟨fun o e => S₅.base e, ?_⟩
      refine c_map_table_b3 (R'.less (by decide)) (G.keeps S₅.fr.keep) (F2.keeps S₅.fr.keep) hcm.tab hcm.low fun u₂ s₆ e₆ => ?_
      have S₆ := S₅.step e₆
      refine r_iaddstr S₆ (by have := hcm.len; omega) fun t₇ s₇ S₇ => ?_
      walk_at "st"
      rename_i s₈ S₈
      refine wpAny_execs_nil ?_
      refine wpAny_execs_nil ?_
      refine ⟨_, _, S₈, rfl, t₇, ?_⟩
      rw [hnext]; unfold prep1; rw [if_neg hb]; rfl
  · rintro m' nw' s' ⟨rfl, u, hu⟩ S'
    refine wpAny_execs_cons ?_
    walk_at "ret"
    have : vs.toArray.size = cs.length := by rw [List.size_toArray, hlen]
    rw [this, List.take_length] at hu
    with_reducible refine r_local (by assumption) hu ?_ ?k1 ?k2 ?k3 ?k4
    case k1 => kernel_rfl
    case k2 => kernel_rfl
    case k3 => kernel_rfl
    case k4 => kernel_rfl
    exact h u _ S'.ext
end
end partMine10
section partMine11
set_option autoImplicit false
section
variable {w : World} {A : Around} {E : Value → Shared → Prop} {s₀ s : Shared} {L : Addr} {m : Str → Option Value} {news : Nw} {env : Env} {mg mb : Str → Option Value}
def Blk (w : World) (A : Around) (E : Value → Shared → Prop) (e : Expr) (scope : Scope) (cl : List (Str × Addr)) (env : Env) (xv : Value) (s₁ : Shared) (Po : List Value → Nw → Prop) : Prop :=
  ∀ RR : Value → Addr → Result → Shared → Prop, (∀ D C k ys m' nw' s', Po ys nw' → St s₁ C m' ((D, lO ys k) :: nw') s' → RR (.ref D) C (.ok .next) s') →
    wpAny (model P0 w) A (pyIter xv) (fun it s₂ => wpAny (model P0 w) A (newList []) (fun acc s₃ => wpAny (model P0 w) A (newFunctionEnv scope env.globals cl [] env.qual none .none (some env)) (fun cenv s₄ =>
      codeAny (model P0 w) A (.compStart e 0 it acc { cenv with scope := relabel scope env }) (RR acc cenv.locals) s₄) E s₃) E s₂) E s₁
theorem blk_one {elt target iter : Expr} {ifs : List Expr} {scope : Scope} {cl : List (Str × Addr)} {pos : Pos} {xv : Value} {s₁ : Shared} {n : Nat} {P : Nat → Value → Prop}
    (J : Nat → List Value → (Str → Option Value) → Nw → Prop) (hsrc : Src w A xv s₁ n P) (hsz : n ≤ sizeLine)
    (hcell : ∀ y ∈ scope.names, y.2 ≠ .cell) (hkind : scope.kind = .function)
    (hJ : J 0 [] (fun _ => none) []) (hlen : ∀ j ys m' nw', J j ys m' nw' → ys.length ≤ j)
    (turn : ∀ C D j k v ys m' nw' I o s', j < n → P j v → J j ys m' nw' → St s₁ C m' ((I, o) :: (D, lO ys k) :: nw') s' →
        wpAny (model P0 w) A (assign target (compEnvC scope cl C env) v) (fun _ s₃ => wpAny (model P0 w) A (forIn ifs true fun c r => if r = true then do let ok ← isTrue c (compEnvC scope cl C env) (eval c (compEnvC scope cl C env)); pure (ForInStep.yield ok) else pure (ForInStep.yield r)) (fun ok s₄ =>
          if ok = true then wpAny (model P0 w) A (eval elt (compEnvC scope cl C env)) (fun y s₅ => ∃ m'' nw'', St s₁ C m'' ((I, o) :: (D, lO ys k) :: nw'') s₅ ∧ J (j + 1) (ys ++ [y]) m'' nw'') (fun _ _ => False) s₄
          else ∃ m'' nw'', St s₁ C m'' ((I, o) :: (D, lO ys k) :: nw'') s₄ ∧ J (j + 1) ys m'' nw'') (fun _ _ => False) s₃) (fun _ _ => False) s')
    (ht : ∀ it v, letOwnedTupleGo target (.ref it) v = pure ()) :
    Blk w A E (.ListComp elt [⟨target, iter, ifs, 0⟩] scope pos) scope cl env xv s₁ (fun ys nw' => ∃ m', J n ys m' nw') := by
  intro RR hRR
  refine hsrc _ _ fun I oI fp IS s₂ W hasI e₁₂ hIn hI2 hg hIS hb => ?_
  refine comp_block (RR := RR) W hasI e₁₂ hIn hI2 hg hIS (fun b h1 h2 => let ⟨o, e, _⟩ := hb b h1 h2; ⟨o, e⟩) hsz hcell hkind J hJ hlen (fun C D j k v ys m' nw' o s' => turn C D j k v ys m' nw' I o s') ?_ (ht I)
  intro D C k ys m' nw' s' hJ' S'
  exact hRR D C k ys m' nw' s' ⟨m', hJ'⟩ S'
theorem r_lc {elt target iter : Expr} {ifs : List Expr} {gs : List Comprehension} {scope : Scope} {cl : List (Str × Addr)} {pos : Pos} {Q : Value → Shared → Prop}
    (hclos : closureFor scope env = pure cl) (hkind : scope.kind = .function) (hnames : ∀ y ∈ scope.names, y.2 = .local → scope.names.lookup y.1 = some .local)
    (h : wpAny (model P0 w) A (eval iter env) (fun xv s₁ => ∃ Po, Blk w A E (.ListComp elt (⟨target, iter, ifs, 0⟩ :: gs) scope pos) scope cl env xv s₁ Po ∧
      (∀ D k ys nw' s', Po ys nw' → Made s₁ ((D, lO ys k) :: nw') s' → Q (.ref D) s')) E s)
    (hs : ∀ x, foldedSetIterable iter env x = pure x := by intro _; rfl) :
    wpAny (model P0 w) A (eval (.ListComp elt (⟨target, iter, ifs, 0⟩ :: gs) scope pos) env) Q E s := by
  rw [eval_ListComp]
  refine wpAny_comprehension_free (use := none) rfl hs hclos hkind hnames (wpAny_mono h (fun xv s₁ h₁ => ?_) fun _ _ e => e)
  obtain ⟨Po, blk, fin⟩ := h₁
  refine blk (fun acc C => compPost (model P0 w) A E none Q acc C) ?_
  intro D C k ys m' nw' s' hJ' S'
  refine ⟨m', S'.fr.ns, fun h' hs' => fin D k ys nw' _ hJ' ?_⟩
  have hkeep : ∀ b o, s₁.heap.get? b = some o → h'.get? b = some o := fun b o e => (hs'.2 b (Nat.ne_of_lt (Nat.lt_of_lt_of_le (Heap.lt_size e) S'.fr.above))).trans (S'.fr.keep b o e)
  exact ⟨⟨hkeep, S'.gens, S'.os⟩, fun p hp => ⟨(hs'.2 _ (S'.nw p hp).2.1).trans (S'.nw p hp).1, (S'.nw p hp).2.2⟩, S'.nd⟩
theorem St.lose {C : Addr} {oC : Obj} {h' : Heap} {d : Drawn} {k : Nat} (S : St s₀ L m ((C, oC) :: news) s) (hs : Heap.SameBut C s.heap h') : St s₀ L m news ⟨h', s.gens, d, k, s.os⟩ := by
  have hC := S.nw (C, oC) (.head _)
  have nd := S.nd
  rw [List.map_cons, List.nodup_cons] at nd
  refine ⟨⟨S.fr.ns.sameBut hs (Ne.symm hC.2.1), fun b ob e => (hs.2 b (fun q => ?_)).trans (S.fr.keep b ob e), S.fr.above⟩, fun p hp => ?_, nd.2, S.gens, S.os⟩
  · rw [q] at e
    have h2 := hC.2.2
    rw [e] at h2; cases h2
  · have z := S.nw p (.tail _ hp)
    exact ⟨(hs.2 _ (fun q => nd.1 (List.mem_map.mpr ⟨p, hp, q⟩))).trans z.1, z.2⟩
/-- x = [.. for ..] where the store is exchanged -/
theorem r_alc {elt target iter : Expr} {ifs : List Expr} {gs : List Comprehension} {scope : Scope} {cl : List (Str × Addr)} {pos spos py : Pos} {x : Str} {Q : Flow → Shared → Prop}
    (hsw : swapsWith (.ListComp elt (⟨target, iter, ifs, 0⟩ :: gs) scope pos) (some (.Name x py)) spos.line env = pure true)
    (hclos : closureFor scope env = pure cl) (hkind : scope.kind = .function) (hnames : ∀ y ∈ scope.names, y.2 = .local → scope.names.lookup y.1 = some .local)
    (hk : env.scope.kind = .function) (hx : env.kindOf x = some .local) (hL : env.locals = L)
    (h : wpAny (model P0 w) A (eval iter env) (fun xv s₁ => ∃ Po m news, St s₀ L m news s₁ ∧ Blk w A E (.ListComp elt (⟨target, iter, ifs, 0⟩ :: gs) scope pos) scope cl env xv s₁ Po ∧
      (∀ D k ys nw' s', Po ys nw' → St s₀ L (fun y => if y = x then some (.ref D) else m y) ((D, lO ys k) :: nw' ++ news) s' → Q .next s')) E s)
    (hs : ∀ x, foldedSetIterable iter env x = pure x := by intro _; rfl) :
    wpAny (model P0 w) A (exec (.Assign [.Name x py] (.ListComp elt (⟨target, iter, ifs, 0⟩ :: gs) scope pos) spos) env) Q E s := by
  rw [exec_Assign_Name_used x py _ spos hsw]
  refine wpAny_bind (wpAny_standAt ?_)
  refine wpAny_bind ?_
  show wpAny _ _ (comprehension _ scope env _ (newList []) _ (firstIter _ env) (some (assign (.Name x py) env)) >>= fun _ => pure ()) _ _ _
  refine wpAny_bind ?_
  refine wpAny_comprehension_free (use := some (assign (.Name x py) env)) rfl hs hclos hkind hnames (wpAny_mono h (fun xv s₁ h₁ => ?_) fun _ _ e => e)
  obtain ⟨Po, m, news, S₁, blk, fin⟩ := h₁
  refine blk (fun acc C => compPost (model P0 w) A E (some (assign (.Name x py) env)) _ acc C) ?_
  intro D C k ys m' nw' s' hJ' S'
  show wpAny _ _ (assign (.Name x py) env (.ref D)) _ _ _
  obtain ⟨oC, es, ep, hC, r⟩ := S'.fr.ns
  have M' : Made s₁ ((C, oC) :: (D, lO ys k) :: nw') s' := by
    refine ⟨S'.ext, fun p hp => ?_, ?_⟩
    · rcases List.mem_cons.mp hp with rfl | hp
      · refine ⟨hC, ?_⟩
        cases e : s₁.heap.get? C with
        | none => rfl
        | some o => exact absurd (Nat.lt_of_lt_of_le (Heap.lt_size e) S'.fr.above) (Nat.lt_irrefl _)
      · exact ⟨(S'.nw p hp).1, (S'.nw p hp).2.2⟩
    · rw [List.map_cons, List.nodup_cons]
      refine ⟨fun hm => ?_, S'.nd⟩
      obtain ⟨p, hp, q⟩ := List.mem_map.mp hm
      exact (S'.nw p hp).2.1 q
  have S₂ := S₁.join M'
  refine PyProof.Rows.assign_Name ?_
  refine r_store S₂ (fun s₃ S₃ => ?_) hk hx hL
  refine ⟨m', ⟨oC, es, ep, S₃.mem (.head _), r⟩, fun h' hs' => ?_⟩
  refine wpAny_pure (wpAny_pure ?_)
  exact fin D k ys nw' _ hJ' (St.lose S₃ hs')
end
end partMine11
section partMine12
set_option autoImplicit false
section
variable {w : World} {A : Around} {E : Value → Shared → Prop} {s₀ s : Shared} {L : Addr} {m : Str → Option Value} {news : Nw} {env : Env} {mg mb : Str → Option Value}
theorem compTurn_outer (elt t1 i1 t2 i2 : Expr) (scope : Scope) (pos : Pos) (it acc : Value) (env : Env) :
    compTurn (.ListComp elt [⟨t1, i1, [], 0⟩, ⟨t2, i2, [], 0⟩] scope pos) 0 it acc env = (standAt i1.pos >>= fun _ => pyNext it >>= fun r => match r with
      | none => pure (.done .next)
      | some v => letOwnedTupleGo t1 it v >>= fun _ => assign t1 env v >>= fun _ => eval i2 env >>= fun x => standAt i2.pos >>= fun _ => foldedSetIterable i2 env x >>= fun x =>
          holding [x] (pyIter x) >>= fun it' => runOwn (.compStart (.ListComp elt [⟨t1, i1, [], 0⟩, ⟨t2, i2, [], 0⟩] scope pos) 1 it' acc env) env >>= fun _ => again (.compLoop (.ListComp elt [⟨t1, i1, [], 0⟩, ⟨t2, i2, [], 0⟩] scope pos) 0 it acc env)) := by rfl
theorem compTurn_inner (elt t1 i1 t2 i2 : Expr) (scope : Scope) (pos : Pos) (it acc : Value) (env : Env) :
    compTurn (.ListComp elt [⟨t1, i1, [], 0⟩, ⟨t2, i2, [], 0⟩] scope pos) 1 it acc env = (standAt i2.pos >>= fun _ => pyNext it >>= fun r => match r with
      | none => pure (.done .next)
      | some v => letOwnedTupleGo t2 it v >>= fun _ => assign t2 env v >>= fun _ =>
        (eval elt env >>= fun x => call (.builtin "list.append") [acc, x] >>= fun _ => pure ()) >>= fun _ =>
          again (.compLoop (.ListComp elt [⟨t1, i1, [], 0⟩, ⟨t2, i2, [], 0⟩] scope pos) 1 it acc env)) := by rfl
theorem compStart_one {elt t1 i1 t2 i2 : Expr} {scope : Scope} {pos : Pos} {it acc : Value} {R : Result → Shared → Prop}
    (h0 : codeAny (model P0 w) A (.compLoop (.ListComp elt [⟨t1, i1, [], 0⟩, ⟨t2, i2, [], 0⟩] scope pos) 1 it acc env) R s)
    (h : wpAny (model P0 w) A (pyIter it) (fun it' s' => codeAny (model P0 w) A (.compLoop (.ListComp elt [⟨t1, i1, [], 0⟩, ⟨t2, i2, [], 0⟩] scope pos) 1 it' acc env) R s')
      (notedBy (model P0 w) A env fun x s' => R (.error x) s') s) :
    codeAny (model P0 w) A (.compStart (.ListComp elt [⟨t1, i1, [], 0⟩, ⟨t2, i2, [], 0⟩] scope pos) 1 it acc env) R s := by
  refine codeAny_of_tree ?_
  show wpAny _ _ ((compStart (.ListComp elt [⟨t1, i1, [], 0⟩, ⟨t2, i2, [], 0⟩] scope pos) 1 it acc env).onRaise (fun x => do noteFrame x env; standAt theWindowsPlace)) _ _ s
  refine wpAny_notedAt ?_
  unfold compStart
  show wpAny _ _ (ask >>= _) _ _ s
  refine wpAny_bind (wpAny_askSetting (wpAny_ite ?_))
  split
  · first
      | exact wpAny_bind (wpAny_pure (wpAny_pure (And.intro rfl h0)))
      | exact wpAny_pure (And.intro rfl h0)
  · refine wpAny_bind (wpAny_rule ?_)
    show wpAny _ _ (standAt i2.pos >>= _) _ _ s
    exact wpAny_bind (wpAny_standAt (wpAny_bind (wpAny_mono h (fun it' s' h' => wpAny_pure (And.intro rfl h')) fun _ _ x => x)))

/-- the inner loop of a comprehension of two fors -/
theorem inner_loop {elt t1 i1 t2 i2 : Expr} {scope : Scope} {pos : Pos} {s₁ : Shared} {C D I I2 : Addr} {o oI2 : Obj} {fp : List Addr} {n : Nat} {P : Nat → Value → Prop} {IS : Nat → Heap → Prop} {R : Result → Shared → Prop} {cenv : Env} {ys₀ : List Value} {k₀ : Nat}
    (W : Walks P0 w A I2 fp [I2] n P IS) (hasI : ∀ j h, IS j h → ∃ o, h.get? I2 = some o) (S : St s₁ C m ((I2, oI2) :: (I, o) :: (D, lO ys₀ k₀) :: news) s) (h0 : IS 0 s.heap)
    (hb : ∀ b ∈ fp, b ≠ I2 → ∃ o, s.heap.get? b = some o) (hz : ys₀.length + n ≤ sizeLine)
    (K : Nat → List Value → (Str → Option Value) → Nw → Prop) (hK : K 0 ys₀ m news) (hlen : ∀ j ys m' nw', K j ys m' nw' → ys.length ≤ ys₀.length + j)
    (hfp : ∀ j ys m' nw', K j ys m' nw' → ∀ b ∈ fp, b ≠ I2 → ∀ o, s.heap.get? b = some o → s₁.heap.get? b = some o ∨ (b, o) ∈ nw')
    (turn : ∀ j v ys k m' nw' o2 s', j < n → P j v → K j ys m' nw' → St s₁ C m' ((I2, o2) :: (I, o) :: (D, lO ys k) :: nw') s' →
      wpAny (model P0 w) A (assign t2 cenv v) (fun _ s₃ => wpAny (model P0 w) A (eval elt cenv) (fun y s₅ => ∃ m'' nw'', St s₁ C m'' ((I2, o2) :: (I, o) :: (D, lO ys k) :: nw'') s₅ ∧ K (j + 1) (ys ++ [y]) m'' nw'') (fun _ _ => False) s₃) (fun _ _ => False) s')
    (hR : ∀ ys k m' nw' s', K n ys m' nw' → St s₁ C m' ((I, o) :: (D, lO ys k) :: nw') s' → R (.ok .next) s') (ht : ∀ v, letOwnedTupleGo t2 (.ref I2) v = pure ()) :
    codeAny (model P0 w) A (.compLoop (.ListComp elt [⟨t1, i1, [], 0⟩, ⟨t2, i2, [], 0⟩] scope pos) 1 (.ref I2) (.ref D) cenv) R s := by
  refine codeAny_loop rfl (fun q s' => ∃ j ys k m' nw' o2, j ≤ n ∧ q = n + 1 - j ∧ K j ys m' nw' ∧ St s₁ C m' ((I2, o2) :: (I, o) :: (D, lO ys k) :: nw') s' ∧ IS j s'.heap ∧ (∀ b ∈ fp, b ≠ I2 → ∀ o, s.heap.get? b = some o → s'.heap.get? b = some o)) ?_ (n + 1)
    ⟨0, ys₀, k₀, m, news, oI2, Nat.zero_le _, rfl, hK, S, h0, fun _ _ _ _ e => e⟩
  rintro q s' ⟨j, ys, k, m', nw', o2, hj, rfl, hK', S', hIS, hkp⟩
  show wpAny _ A ((compTurn (.ListComp elt [⟨t1, i1, [], 0⟩, ⟨t2, i2, [], 0⟩] scope pos) 1 (.ref I2) (.ref D) cenv).onRaise (fun x => do noteFrame x cenv; theTreesLotGoes x)) _ _ s'
  refine wpAny_noted ?_
  rw [compTurn_inner]
  refine wpAny_bind (wpAny_standAt (wpAny_bind ?_))
  by_cases hjn : j < n
  · refine W.item j s' _ _ hjn hIS fun v h' tk hP hIS' hkeep => ?_
    obtain ⟨o', ho'⟩ := hasI _ _ hIS'
    have S₁ := S'.iter (k := tk) (d := s'.drawn) hkeep ho'
    refine wpAny_bind (wpAny_of_eq (ht v) ?_)
    refine wpAny_bind (wpAny_mono (turn j v ys k m' nw' o' _ hjn hP hK' S₁) (fun _ s₃ h₃ => wpAny_bind (wpAny_bind (wpAny_mono h₃ (fun y s₄ h₄ => wpAny_bind ?_) fun _ _ f => f.elim))) fun _ _ f => f.elim)
    obtain ⟨m'', nw'', S₄, hK₄⟩ := h₄
    refine r_append 2 S₄ rfl (Nat.le_trans (hlen _ _ _ _ hK') (by omega)) fun k'' s₅ S₅ => wpAny_pure (wpAny_pure ⟨rfl, ?_⟩)
    have S₅' : St s₁ C m'' ((I2, o') :: (I, o) :: (D, lO (ys ++ [y]) k'') :: nw'') s₅ := S₅
    have keep₃ : ∀ b ∈ fp, b ≠ I2 → ∀ o, s.heap.get? b = some o → s₅.heap.get? b = some o := fun b hbf hbI ob hob => by
      rcases hfp _ _ _ _ hK₄ b hbf hbI ob hob with z | z
      · exact S₅'.base z
      · exact S₅'.mem (.tail _ (.tail _ (.tail _ z)))
    refine ⟨n + 1 - (j + 1), by omega, j + 1, _, k'', m'', nw'', o', hjn, rfl, hK₄, S₅', W.frame _ _ _ hIS' (fun b hbf ob hob => ?_), keep₃⟩
    by_cases hbI : b = I2
    · subst hbI
      rw [ho'] at hob; cases hob
      exact S₅'.mem (.head _)
    · obtain ⟨ob', hob'⟩ := hb b hbf hbI
      have := hkeep b ob' (by simpa using hbI) (hkp b hbf hbI ob' hob')
      rw [hob] at this; cases this
      exact keep₃ b hbf hbI ob hob'
  · have : j = n := by omega
    subst this
    refine W.done s' _ _ hIS fun h' tk hkeep => wpAny_pure ?_
    have S₂ := S'.drop
    have nI : ∀ b ob, s'.heap.get? b = some ob → b ≠ I2 → h'.get? b = some ob := fun b ob e q => hkeep b ob (by simpa using q) e
    have hI := S'.nw (I2, o2) (.head _)
    have nd := S'.nd
    rw [List.map_cons, List.nodup_cons] at nd
    obtain ⟨oL, es, ep, hL, r⟩ := S'.fr.ns
    refine hR ys k m' nw' _ hK' ⟨⟨⟨oL, es, ep, nI _ _ hL (Ne.symm hI.2.1), r⟩, fun b ob e => nI b ob (S'.fr.keep b ob e) (fun q => ?_), S'.fr.above⟩, fun p hp => ?_, S₂.nd, S'.gens, S'.os⟩
    · rw [q] at e
      have h2 := hI.2.2
      rw [e] at h2; cases h2
    · have z := S₂.nw p hp
      exact ⟨nI _ _ z.1 (fun q => nd.1 (List.mem_map.mpr ⟨p, hp, q⟩)), z.2⟩
end
end partMine12
section partMine13
set_option autoImplicit false
section
variable {w : World} {A : Around} {E : Value → Shared → Prop} {s₀ s : Shared} {L : Addr} {m : Str → Option Value} {news : Nw} {env : Env} {mg mb : Str → Option Value}
theorem comp_pre {elt target iter : Expr} {ifs : List Expr} {rest : List Comprehension} {scope : Scope} {cl : List (Str × Addr)} {pos : Pos} {s₁ s₂ : Shared} {I : Addr} {oI : Obj} {fp : List Addr} {n : Nat} {P : Nat → Value → Prop} {IS : Nat → Heap → Prop}
    {RR : Value → Addr → Result → Shared → Prop}
    (W : Walks P0 w A I fp [I] n P IS) (e₁₂ : Ext s₁ s₂) (hIn : s₁.heap.get? I = none) (hI2 : s₂.heap.get? I = some oI) (hgrow : s₁.heap.objs.size ≤ s₂.heap.objs.size) (h0 : IS 0 s₂.heap)
    (hcell : ∀ y ∈ scope.names, y.2 ≠ .cell) (hkind : scope.kind = .function)
    (h : ∀ C D s₃, St s₁ C (fun _ => none) ((I, oI) :: (D, lO [] 0) :: []) s₃ → IS 0 s₃.heap → codeAny (model P0 w) A (.compLoop (.ListComp elt (⟨target, iter, ifs, 0⟩ :: rest) scope pos) 0 (.ref I) (.ref D) (compEnvC scope cl C env)) (RR (.ref D) C) s₃) :
    wpAny (model P0 w) A (newList []) (fun acc s₃ => wpAny (model P0 w) A (newFunctionEnv scope env.globals cl [] env.qual none .none (some env)) (fun cenv s₄ =>
      codeAny (model P0 w) A (.compStart (.ListComp elt (⟨target, iter, ifs, 0⟩ :: rest) scope pos) 0 (.ref I) acc { cenv with scope := relabel scope env }) (RR acc cenv.locals) s₄) E s₃) E s₂ := by
  refine wpAny_newObj_type (wpAny_newFunctionEnv hcell (by intro y hy; simp at hy) (fun h₁ hns₁ hsb₁ => ?_) hkind)
  dsimp only at hns₁ hsb₁ ⊢
  generalize hH2 : s₂.heap.push { cls := .type "list", dict := none, data := .seq ([] : List Value).toArray } = H2 at hns₁ hsb₁ ⊢
  have hC : H2.objs.size = s₂.heap.objs.size + 1 := by rw [← hH2, Heap.size_push]
  generalize hD : s₂.heap.objs.size = D at hC ⊢
  generalize hCC : H2.objs.size = C at hns₁ hsb₁ hC ⊢
  have old : ∀ b o, s₂.heap.get? b = some o → h₁.get? b = some o := fun b o e => by
    have lt := Heap.lt_size e
    exact hsb₁.extBut b o (by rw [hC, ← hD]; exact Nat.ne_of_lt (Nat.lt_succ_of_lt lt)) (Heap.get?_push_of_some _ (hH2 ▸ Heap.get?_push_of_some _ e))
  have fresh : ∀ a, D ≤ a → s₂.heap.get? a = none := fun a ha => by
    cases e : s₂.heap.get? a with
    | none => rfl
    | some o' => exact absurd (Heap.lt_size e) (Nat.not_lt.mpr (hD ▸ ha))
  have fresh₁ : ∀ a, D ≤ a → s₁.heap.get? a = none := fun a ha => by
    cases e : s₁.heap.get? a with
    | none => rfl
    | some o' => have := e₁₂.keep _ _ e; rw [fresh a ha] at this; cases this
  have hDC : D ≠ C := by rw [hC]; exact Nat.ne_of_lt (Nat.lt_succ_self _)
  have hI₁ : h₁.get? I = some oI := old _ _ hI2
  have hD₁ : h₁.get? D = some (lO [] 0) := hsb₁.extBut _ _ hDC (Heap.get?_push_of_some _ (hH2 ▸ hD ▸ Heap.get?_push_size _ rfl))
  have hID : I ≠ D := fun q => by rw [q] at hI2; rw [fresh D (Nat.le_refl _)] at hI2; cases hI2
  have hIC : I ≠ C := fun q => by rw [q] at hI2; rw [fresh C (by rw [hC]; exact Nat.le_succ _)] at hI2; cases hI2
  have hab : s₁.heap.objs.size ≤ C := by
    have := hgrow
    rw [hC, ← hD]; exact Nat.le_succ_of_le this
  have S₃ : St s₁ C (fun _ => none) ((I, oI) :: (D, lO [] 0) :: []) ⟨h₁, s₂.gens, s₂.drawn, s₂.toks + ([] : List (Str × Value)).length, s₂.os⟩ := by
    refine ⟨⟨hns₁, fun b o e => old b o (e₁₂.keep b o e), hab⟩, fun p hp => ?_, ?_, e₁₂.gens, e₁₂.os⟩
    · rcases List.mem_cons.mp hp with rfl | hp
      · exact ⟨hI₁, hIC, hIn⟩
      · rcases List.mem_cons.mp hp with rfl | hp
        · exact ⟨hD₁, hDC, fresh₁ D (Nat.le_refl _)⟩
        · cases hp
    · simp [hID]
  generalize hs₃ : (⟨h₁, s₂.gens, s₂.drawn, s₂.toks + ([] : List (Str × Value)).length, s₂.os⟩ : Shared) = s₃ at S₃ ⊢
  have hIS₃ : IS 0 s₃.heap := W.frame _ _ _ h0 fun b _ o e => by rw [← hs₃]; exact old b o e
  have loop := h C D s₃ S₃ hIS₃
  exact codeAny_compStart_list loop (W.self 0 _ _ _ hIS₃ loop)

theorem blk_two {elt t1 i1 t2 i2 : Expr} {scope : Scope} {cl : List (Str × Addr)} {pos : Pos} {xv : Value} {s₁ : Shared} {n : Nat} {P : Nat → Value → Prop}
    (J : Nat → List Value → Nw → Prop) (hsrc : Src w A xv s₁ n P)
    (hcell : ∀ y ∈ scope.names, y.2 ≠ .cell) (hkind : scope.kind = .function) (hJ : J 0 [] [])
    (turn : ∀ C D j k v ys m' nw' I o s', j < n → P j v → J j ys nw' → St s₁ C m' ((I, o) :: (D, lO ys k) :: nw') s' →
      wpAny (model P0 w) A (assign t1 (compEnvC scope cl C env) v) (fun _ s₃ => wpAny (model P0 w) A (eval i2 (compEnvC scope cl C env)) (fun xv2 s₄ => ∃ (n2 : Nat) (P2 : Nat → Value → Prop) (m4 : Str → Option Value) (nw4 : Nw) (K : Nat → List Value → (Str → Option Value) → Nw → Prop),
        Src w A xv2 s₄ n2 P2 ∧ St s₁ C m4 ((I, o) :: (D, lO ys k) :: nw4) s₄ ∧ K 0 ys m4 nw4 ∧ ys.length + n2 ≤ sizeLine ∧ (∀ j ys' m' nw', K j ys' m' nw' → ys'.length ≤ ys.length + j) ∧
        (∀ j ys' m' nw', K j ys' m' nw' → ∀ b, Value.ref b = xv2 → ∀ o, s₄.heap.get? b = some o → s₁.heap.get? b = some o ∨ (b, o) ∈ nw') ∧
        (∀ j2 v2 ys' k' m' nw' I2 o2 s', j2 < n2 → P2 j2 v2 → K j2 ys' m' nw' → St s₁ C m' ((I2, o2) :: (I, o) :: (D, lO ys' k') :: nw') s' →
          wpAny (model P0 w) A (assign t2 (compEnvC scope cl C env) v2) (fun _ s₃ => wpAny (model P0 w) A (eval elt (compEnvC scope cl C env)) (fun y s₅ => ∃ m'' nw'', St s₁ C m'' ((I2, o2) :: (I, o) :: (D, lO ys' k') :: nw'') s₅ ∧ K (j2 + 1) (ys' ++ [y]) m'' nw'') (fun _ _ => False) s₃) (fun _ _ => False) s') ∧
        (∀ ys' m' nw', K n2 ys' m' nw' → J (j + 1) ys' nw')) (fun _ _ => False) s₃) (fun _ _ => False) s')
    (hs2 : ∀ env x, foldedSetIterable i2 env x = pure x) (ht1 : ∀ it v, letOwnedTupleGo t1 (.ref it) v = pure ()) (ht2 : ∀ it v, letOwnedTupleGo t2 (.ref it) v = pure ()) :
    Blk w A E (.ListComp elt [⟨t1, i1, [], 0⟩, ⟨t2, i2, [], 0⟩] scope pos) scope cl env xv s₁ (fun ys nw' => J n ys nw') := by
  intro RR hRR
  refine hsrc _ _ fun I oI fp IS s₂ W hasI e₁₂ hIn hI2 hg hIS hb => ?_
  refine comp_pre W e₁₂ hIn hI2 hg hIS hcell hkind fun C D s₃ S₃ hIS₃ => ?_
  refine codeAny_loop rfl (fun q s' => ∃ j ys k m' nw' o, j ≤ n ∧ q = n + 1 - j ∧ J j ys nw' ∧ St s₁ C m' ((I, o) :: (D, lO ys k) :: nw') s' ∧ IS j s'.heap) ?_ (n + 1)
    ⟨0, [], 0, _, [], oI, Nat.zero_le _, rfl, hJ, S₃, hIS₃⟩
  rintro q s' ⟨j, ys, k, m', nw', o, hj, rfl, hJ', S', hIS⟩
  show wpAny _ A ((compTurn (.ListComp elt [⟨t1, i1, [], 0⟩, ⟨t2, i2, [], 0⟩] scope pos) 0 (.ref I) (.ref D) (compEnvC scope cl C env)).onRaise (fun x => do noteFrame x (compEnvC scope cl C env); theTreesLotGoes x)) _ _ s'
  refine wpAny_noted ?_
  rw [compTurn_outer]
  refine wpAny_bind (wpAny_standAt (wpAny_bind ?_))
  by_cases hjn : j < n
  · refine W.item j s' _ _ hjn hIS fun v h' tk hP hIS' hkeep => ?_
    obtain ⟨o', ho'⟩ := hasI _ _ hIS'
    have S₁ := S'.iter (k := tk) (d := s'.drawn) hkeep ho'
    refine wpAny_bind (wpAny_of_eq (ht1 I v) ?_)
    refine wpAny_bind (wpAny_mono (turn C D j k v ys m' nw' I o' _ hjn hP hJ' S₁) (fun _ s₃ h₃ => wpAny_bind (wpAny_mono h₃ (fun xv2 s₄ h₄ => ?_) fun _ _ f => f.elim)) fun _ _ f => f.elim)
    obtain ⟨n2, P2, m4, nw4, K, hsrc2, S₄, hK, hz, hlen, hfp, iturn, hKJ⟩ := h₄
    refine wpAny_bind (wpAny_standAt (wpAny_bind (wpAny_of_eq (hs2 _ xv2) (wpAny_bind (wpAny_holding ?_)))))
    refine hsrc2 _ _ fun I2 oI2 fp2 IS2 s₅ W2 hasI2 e₄₅ hI2n hI22 hg2 hIS2 hb2 => ?_
    have S₅ := S₄.more e₄₅ hI2n hI22
    have again : ∀ {s₆ : Shared} {ys' : List Value} {k'' : Nat} {m'' : Str → Option Value} {nw'' : Nw}, St s₁ C m'' ((I, o') :: (D, lO ys' k'') :: nw'') s₆ → J (j + 1) ys' nw'' →
        ∃ q, q < n + 1 - j ∧ ∃ j ys k m' nw' o, j ≤ n ∧ q = n + 1 - j ∧ J j ys nw' ∧ St s₁ C m' ((I, o) :: (D, lO ys k) :: nw') s₆ ∧ IS j s₆.heap := fun {s₆ ys' k'' m'' nw''} S₆ hJ₆ => by
      refine ⟨n + 1 - (j + 1), by omega, j + 1, ys', k'', m'', nw'', o', hjn, rfl, hJ₆, S₆, W.frame _ _ _ hIS' (fun b hbf ob hob => ?_)⟩
      by_cases hbI : b = I
      · subst hbI
        rw [ho'] at hob; cases hob
        exact S₆.mem (.head _)
      · obtain ⟨ob', hob', _⟩ := hb b hbf hbI
        have := S₁.base hob'
        rw [hob] at this; cases this
        exact S₆.base hob'
    have loop : codeAny (model P0 w) A (.compLoop (.ListComp elt [⟨t1, i1, [], 0⟩, ⟨t2, i2, [], 0⟩] scope pos) 1 (.ref I2) (.ref D) (compEnvC scope cl C env)) (fun r s' => match r with
        | .ok _ => ∃ q, q < n + 1 - j ∧ ∃ j ys k m' nw' o, j ≤ n ∧ q = n + 1 - j ∧ J j ys nw' ∧ St s₁ C m' ((I, o) :: (D, lO ys k) :: nw') s' ∧ IS j s'.heap
        | .error e => False) s₅ := by
      refine inner_loop W2 hasI2 S₅ hIS2 (fun b h1 h2 => let ⟨o, e, _⟩ := hb2 b h1 h2; ⟨o, e₄₅.keep _ _ e⟩) hz K hK hlen (fun j ys' m' nw' hj b h1 h2 o ho => ?_) (fun j2 v2 ys' k' m' nw' o2 s' => iturn j2 v2 ys' k' m' nw' I2 o2 s') ?_ (ht2 I2)
      · obtain ⟨o₁, e₁, hx⟩ := hb2 b h1 h2
        have := e₄₅.keep _ _ e₁
        rw [ho] at this; cases this
        exact hfp j ys' m' nw' hj b hx o e₁
      · intro ys' k' m' nw' s' hK' S'
        exact again S' (hKJ _ _ _ hK')
    have loop' : codeAny (model P0 w) (A.mark none) (.compLoop (.ListComp elt [⟨t1, i1, [], 0⟩, ⟨t2, i2, [], 0⟩] scope pos) 1 (.ref I2) (.ref D) (compEnvC scope cl C env)) _ s₅ := loop
    refine wpAny_bind (wpAny_runOwn (codeAny_mono (compStart_one loop' (W2.self 0 _ _ _ hIS2 loop')) fun r s' hr => ?_))
    cases r with
    | ok f => exact wpAny_pure ⟨rfl, hr⟩
    | error e => exact hr.elim
  · have : j = n := by omega
    subst this
    refine W.done s' _ _ hIS fun h' tk hkeep => wpAny_pure ?_
    have S₂ := S'.drop
    have nI : ∀ b ob, s'.heap.get? b = some ob → b ≠ I → h'.get? b = some ob := fun b ob e q => hkeep b ob (by simpa using q) e
    have hI := S'.nw (I, o) (.head _)
    have nd := S'.nd
    rw [List.map_cons, List.nodup_cons] at nd
    obtain ⟨oL, es, ep, hL, r⟩ := S'.fr.ns
    refine hRR D C k ys m' nw' _ hJ' ⟨⟨⟨oL, es, ep, nI _ _ hL (Ne.symm hI.2.1), r⟩, fun b ob e => nI b ob (S'.fr.keep b ob e) (fun q => ?_), S'.fr.above⟩, fun p hp => ?_, S₂.nd, S'.gens, S'.os⟩
    · rw [q] at e
      have h2 := hI.2.2
      rw [e] at h2; cases h2
    · have z := S₂.nw p hp
      exact ⟨nI _ _ z.1 (fun q => nd.1 (List.mem_map.mpr ⟨p, hp, q⟩)), z.2⟩
end
end partMine13
section partMine14
set_option autoImplicit false
inductive All2 {α β : Type} (F : α → β → Prop) : List α → List β → Prop
  | nil : All2 F [] []
  | cons {a : α} {b : β} {as bs} : F a b → All2 F as bs → All2 F (a :: as) (b :: bs)
section
variable {α β : Type} {F G : α → β → Prop}
theorem All2.length {as : List α} {bs : List β} (h : All2 F as bs) : as.length = bs.length := by
  induction h with
  | nil => rfl
  | cons _ _ ih => simp [ih]
theorem All2.imp {as : List α} {bs : List β} (h : All2 F as bs) (k : ∀ a b, F a b → G a b) : All2 G as bs := by
  induction h with
  | nil => exact .nil
  | cons x _ ih => exact .cons (k _ _ x) ih
theorem All2.append {as as' : List α} {bs bs' : List β} (h : All2 F as bs) (g : All2 F as' bs') : All2 F (as ++ as') (bs ++ bs') := by
  induction h with
  | nil => exact g
  | cons x _ ih => exact .cons x ih
theorem All2.snoc {as : List α} {bs : List β} {a : α} {b : β} (h : All2 F as bs) (x : F a b) : All2 F (as ++ [a]) (bs ++ [b]) := h.append (.cons x .nil)
theorem All2.at {as : List α} {bs : List β} (h : All2 F as bs) : ∀ {i : Nat} {a : α}, as[i]? = some a → ∃ b, bs[i]? = some b ∧ F a b := by
  induction h with
  | nil => intro i a e; simp at e
  | cons x _ ih =>
    intro i a e
    cases i with
    | zero => simp at e; subst e; exact ⟨_, by simp, x⟩
    | succ i => exact ih (i := i) (by simpa using e)
end
def RowIn (nw : Nw) (v : Value) (r : List Int) : Prop := ∃ a vs k, v = .ref a ∧ (a, lO vs k) ∈ nw ∧ IntsAre vs r
theorem RowIn.mono {nw nw' : Nw} {v : Value} {r : List Int} (h : RowIn nw v r) (k : ∀ p ∈ nw, p ∈ nw') : RowIn nw' v r := let ⟨a, vs, n, h1, h2, h3⟩ := h; ⟨a, vs, n, h1, k _ h2, h3⟩
def rowsOf : Nat → List (List Int)
  | 0 => [[]]
  | n + 1 => (rowsOf n).flatMap fun r => [r ++ [0], r ++ [1]]
theorem flat_two {α β : Type} (f g : α → β) : ∀ l : List α, (l.flatMap fun r => [f r, g r]).length = 2 * l.length
  | [] => rfl
  | x :: l => by
    rw [List.flatMap_cons, List.length_append, flat_two f g l]
    simp only [List.length_cons, List.length_nil]; omega
theorem rowsOf_len : ∀ n, (rowsOf n).length = 2 ^ n
  | 0 => rfl
  | n + 1 => by
    unfold rowsOf
    rw [flat_two, rowsOf_len n, Nat.pow_succ]; omega
theorem rowsOf_mem : ∀ n, ∀ r ∈ rowsOf n, r.length = n ∧ Bits r
  | 0, r, h => by
    have : r = [] := by simpa [rowsOf] using h
    subst this; exact ⟨rfl, fun _ hb => by cases hb⟩
  | n + 1, r, h => by
    unfold rowsOf at h
    obtain ⟨q, hq, hr⟩ := List.mem_flatMap.mp h
    obtain ⟨h1, h2⟩ := rowsOf_mem n q hq
    simp only [List.mem_cons, List.not_mem_nil, or_false] at hr
    rcases hr with rfl | rfl
    · exact ⟨by simp [h1], fun b hb => by
        rcases List.mem_append.mp hb with hb | hb
        · exact h2 b hb
        · simp at hb; exact .inl hb⟩
    · exact ⟨by simp [h1], fun b hb => by
        rcases List.mem_append.mp hb with hb | hb
        · exact h2 b hb
        · simp at hb; exact .inr hb⟩
section
variable {w : World} {A : Around} {E : Value → Shared → Prop} {s₀ s : Shared} {L : Addr} {m : Str → Option Value} {news : Nw} {env : Env} {mg mb : Str → Option Value}
theorem St.to3 {p q r : Addr × Obj} (S : St s₀ L m (p :: q :: r :: news) s) : St s₀ L m (q :: r :: p :: news) s :=
  S.perm ((List.Perm.cons _ (List.Perm.swap ..)).trans (List.Perm.swap ..))
theorem St.to5 {c b x y z : Addr × Obj} (S : St s₀ L m (c :: b :: x :: y :: z :: news) s) : St s₀ L m (x :: y :: z :: c :: news) s := by
  have S₁ : St s₀ L m (c :: x :: y :: z :: news) s := S.weaken (.cons_cons _ (.cons _ (List.Sublist.refl _)))
  refine S₁.perm ?_
  exact (List.perm_middle (l₁ := [x, y, z]) (a := c) (l₂ := news))
set_option maxHeartbeats 1000000 in
theorem c_rows {a : Addr} {n : Nat} {t : Tok} {Q : Value → Shared → Prop} (R : Room A 3) (G : Gl w mg mb s.heap) (F : FnAt s.heap (D 18) a) (hn : n ≤ 8)
    (h : ∀ Dr vs k nw s', Made s ((Dr, lO vs k) :: nw) s' → All2 (RowIn nw) vs (rowsOf n) → Q (.ref Dr) s') : wpAny (model P0 w) A (call (.ref a) [.int n t]) Q E s := by
  refine enter (binds := [("size", .int n t)]) R F G.nolimit (fun _ _ _ => rfl) (by kernel_rfl) (by decide +kernel) (fun cd s₁ cells S X => ?_) (by intro n; exact List.nodup_nil)
  have hh := (R.deeper (env := envOfC (D 18).name (D 18).scope s.heap.objs.size a cd)).handled
  cases X
  refine wpAny_execs_cons ?_
  walk_at "as"
  with_reducible refine List_ ?_
  walk_at "more"
  with_reducible refine List_ ?_
  walk_at "sp0"
  refine r_newlist S (by decide) fun a0 s₂ S₂ => ?_
  walk_at "sp0"
  refine r_newlist S₂ (by simp) fun l0 s₃ S₃ => ?_
  walk_at "st"
  rename_i s₄ S₄
  walk_at "ec"
  walk_at "for"
  walk_at "call"
  walk_at "bi range"
  refine PyProof.Rows.callWith_type1 ?_
  walk_at "more"
  walk_at "ld"
  walk_at "sp0"
  refine r_range1 S₄ fun r u v s₅ S₅ => ?_
  generalize hrO : ({ cls := .type "range", data := .fields #[.int 0 u, .int n t, .int 1 v] } : Obj) = rO at S₅
  refine ⟨n, _, _, _, fun j m' nw' => ∃ Dr vs k nwr, m' "rows" = some (.ref Dr) ∧ nw' = (Dr, lO vs k) :: nwr ∧ All2 (RowIn nwr) vs (rowsOf j) ∧ (r, rO) ∈ nwr,
    src_range hh (hrO ▸ S₅.mem (.head _)) (by omega), S₅.front, ⟨l0, _, _, _, rfl, rfl, ?_, .head _⟩, ?_, ?_, ?_⟩
  · exact .cons ⟨a0, [], 0, rfl, .tail _ (.head _), .nil⟩ .nil
  · rintro j m' nw' ⟨Dr, vs, k, nwr, _, rfl, _, hr⟩ b hb o ho
    cases hb
    have := S₅.mem (.head _)
    rw [ho] at this; cases this
    exact .inr (.tail _ hr)
  · rintro I j v' o m' nw' s' hj hP ⟨Dr, vs, k, nwr, hm, rfl, hrows, hr⟩ S'
    have hlenv := hrows.length
    rw [rowsOf_len] at hlenv
    have hpow : 2 ^ j ≤ 256 := Nat.pow_le_pow_right (n := 2) (by decide) (show j ≤ 8 by omega)
    with_reducible refine PyProof.Rows.assign_Name ?_
    walk_at "st"
    rename_i s₆ S₆
    refine wpAny_execs_cons ?_
    refine r_alc (cl := []) (L := s.heap.objs.size) (s₀ := s) (by kernel_rfl) (by kernel_rfl) (by kernel_rfl) (by decide +kernel) (by kernel_rfl) (by kernel_rfl) (by kernel_rfl) ?_
    refine r_local S₆ (v := .ref Dr) (by exact hm) ?_ (by kernel_rfl) (by kernel_rfl) (by kernel_rfl) (by kernel_rfl)
    have hDl : s₆.heap.get? Dr = some (lO vs k) := S₆.mem (.tail _ (.head _))
    refine ⟨_, _, _, S₆, blk_two (fun i ys nw' => All2 (RowIn nw') ys (((rowsOf j).take i).flatMap fun r => [r ++ [0], r ++ [1]])) (src_list hh (lO_list hDl)) (by decide +kernel) (by kernel_rfl) .nil ?_ (by intro _ _; rfl) (by intro _ _; rfl) (by intro _ _; rfl), ?_⟩
    · intro C D' j' k' v'' ys m'' nw'' I' o' s'' hj' hP' hys S''
      obtain ⟨row, hrow, ar, ws, kk, rfl, hmem, hints⟩ := hrows.at (by simpa using hP')
      have hys2 := hys.length
      have hl2 : ys.length ≤ 512 := by
        rw [hys2, flat_two]
        have : (List.take j' (rowsOf j)).length ≤ (rowsOf j).length := List.length_take_le' ..
        rw [rowsOf_len] at this; omega
      have hrl : row.length ≤ 8 := by
        have := (rowsOf_mem j row (List.mem_of_getElem? hrow)).1
        omega
      with_reducible refine PyProof.Rows.assign_Name ?_
      walk_at "st"
      rename_i s₇ S₇
      with_reducible refine Tuple_ ?_
      walk_at "ci"
      walk_at "ci"
      walk_at "sp0"
      refine r_newtuple (by assumption) (by simp) fun tp s₈ S₈ => ?_
      generalize htO : tO _ = tpO at S₈
      have S₉ := S₈.to3
      refine ⟨2, _, _, _, fun i ys' m3 nw3 => m3 "row" = some (.ref ar) ∧ (tp, tpO) ∈ nw3 ∧ All2 (RowIn nw3) ys' ((((rowsOf j).take j').flatMap fun r => [r ++ [0], r ++ [1]]) ++ ([row ++ [0], row ++ [1]] : List (List Int)).take i),
        src_tuple hh ⟨_, htO ▸ S₉.mem (.tail _ (.tail _ (.head _))), rfl, _, rfl⟩, S₉, ⟨rfl, .head _, ?_⟩, ?_, ?_, ?_, ?_, ?_⟩
      · rw [List.take_zero, List.append_nil]
        exact hys.imp fun _ _ x => x.mono fun p hp => .tail _ hp
      · rw [sizeLine_eq]; omega
      · rintro i ys' m3 nw3 ⟨_, _, hA⟩
        have := hA.length
        rw [List.length_append, ← hys2] at this
        have h2 : (List.take i ([row ++ [0], row ++ [1]] : List (List Int))).length ≤ i := List.length_take_le ..
        omega
      · rintro i ys' m3 nw3 ⟨_, ht, _⟩ b hb o ho
        cases hb
        have := S₈.mem (.head _)
        rw [ho] at this; cases this
        exact .inr ht
      · rintro i v3 ys' k3 m3 nw3 I2 o2 s9 hi hP3 ⟨hm3, ht3, hA⟩ S10
        with_reducible refine PyProof.Rows.assign_Name ?_
        walk_at "st"
        rename_i s11 S11
        have hi2 : i = 0 ∨ i = 1 := by omega
        obtain ⟨bv, bt, hv3, hb3⟩ : ∃ bv bt, v3 = .int bv bt ∧ (List.take (i + 1) ([row ++ [0], row ++ [1]] : List (List Int))) = List.take i ([row ++ [0], row ++ [1]] : List (List Int)) ++ [row ++ [bv]] := by
          rcases hi2 with rfl | rfl
          · exact ⟨0, _, (Option.some.inj hP3).symm, rfl⟩
          · exact ⟨1, _, (Option.some.inj hP3).symm, rfl⟩
        subst hv3
        with_reducible refine wpAny_BinOp ?_
        refine r_local S11 (v := .ref ar) (by exact hm3) ?_ (by kernel_rfl) (by kernel_rfl) (by kernel_rfl) (by kernel_rfl)
        with_reducible refine List_ ?_
        walk_at "more"
        walk_at "ld"
        walk_at "sp0"
        refine r_newlist S11 (by simp) fun b1 s12 S12 => ?_
        have har : s12.heap.get? ar = some (lO ws kk) := S12.base (S₆.mem (.tail _ (.tail _ hmem)))
        refine r_addlist S12 (lO_list har) (lO_list (S12.mem (.head _))) (by rw [ints_len hints]; simp; omega) fun c s13 S13 => ?_
        refine ⟨_, _, S13.to5, by exact hm3, .tail _ ht3, ?_⟩
        rw [hb3, ← List.append_assoc]
        exact (hA.imp fun _ _ x => x.mono fun p hp => .tail _ hp).snoc ⟨c, _, _, rfl, .head _, ints_app hints (.cons _ _ .nil)⟩
      · rintro ys' m3 nw3 ⟨_, _, hA⟩
        rw [List.take_add_one, hrow, List.flatMap_append]
        simpa using hA
    · intro D' k' ys nw'' s'' hys S''
      refine wpAny_execs_nil ?_
      have hys' : All2 (RowIn nw'') ys (rowsOf (j + 1)) := by
        have : vs.toArray.size = (rowsOf j).length := by rw [List.size_toArray]; exact hrows.length
        rw [this, List.take_length] at hys
        exact hys
      refine ⟨_, (D', lO ys k') :: (nw'' ++ (Dr, lO vs k) :: nwr), S''.perm ?_, D', ys, k', _, rfl, rfl, hys'.imp fun _ _ x => x.mono fun p hp => List.mem_append_left _ hp, List.mem_append_right _ (.tail _ hr)⟩
      exact (List.perm_middle (l₁ := (D', lO ys k') :: nw'') (a := (I, o)) (l₂ := (Dr, lO vs k) :: nwr)).symm
  · rintro m' nw' s' ⟨Dr, vs, k, nwr, hm, rfl, hrows, hr⟩ S'
    refine wpAny_execs_cons ?_
    walk_at "ret"
    refine r_local S' (v := .ref Dr) hm ?_ (by kernel_rfl) (by kernel_rfl) (by kernel_rfl) (by kernel_rfl)
    exact h Dr vs k nwr s' S'.made hrows
end
end partMine14
section partMine15
set_option autoImplicit false
local macro_rules | `(tactic| walk_at "cs") => `(tactic| (walk_at "more"; with_reducible refine r_str (by assumption) (fun _ _ _ => ?_)))
local macro_rules | `(tactic| walk_at "mm") => `(tactic| (first | exact List.Mem.head _ | (refine List.Mem.tail _ ?_; walk_at "mm")))
/-- the letters that the law draws from, as numbers -/
def c0T : List Nat := [107, 109, 97, 102, 118, 119, 32]
def c1T : List Nat := [969, 969, 956, 956, 956, 956, 953]
def bothT : List (List Nat) := [[13248, 107, 969], [13249, 109, 969], [13186, 956, 97], [13196, 956, 102], [13238, 956, 118], [13244, 956, 119], [890, 32, 953]]
def s0T : List (List Nat) := [[107, 75, 8490, 119818], [109, 77, 8499, 119872], [97, 65, 119808, 119860], [102, 70, 8497, 119813], [118, 86, 119829, 119881], [119, 87, 119830, 119882], [32, 32, 32, 32]]
def s1T : List (List Nat) := [[969, 937, 8486, 120512], [969, 937, 8486, 120512], [956, 924, 181, 120499], [956, 924, 181, 120499], [956, 924, 181, 120499], [956, 924, 181, 120499], [953, 921, 837, 8126]]
def Two (c : Nat) (v : Value) (sg : Nat) : Prop := ∃ t, v = .str ⟨#[sg, c]⟩ t
section
variable {w : World} {A : Around} {E : Value → Shared → Prop} {s₀ s : Shared} {L : Addr} {m : Str → Option Value} {news : Nw} {env : Env} {mg mb : Str → Option Value}
theorem mem_tuple_str {tp l1 l2 : Addr} {x y : Str} {u : Tok} {nw : Nw} (e : x = y) (h : (tp, tO [.ref l1, .ref l2, .str x u]) ∈ nw) : (tp, tO [.ref l1, .ref l2, .str y u]) ∈ nw := e ▸ h
theorem two_of {x : Str} {t : Tok} {sg c : Nat} (h : x = ⟨#[sg, c]⟩) : Two c (.str x t) sg := ⟨t, by rw [h]⟩
set_option maxHeartbeats 4000000 in
theorem c_letters {a : Addr} {i : Nat} {t : Tok} {Q : Value → Shared → Prop} (R : Room A 1) (G : Gl w mg mb s.heap) (F : FnAt s.heap (D 15) a) (hi : i < 7)
    (h : ∀ tp l1 l2 vs1 vs2 k1 k2 u nw s', Made s nw s' → (tp, tO [.ref l1, .ref l2, .str ⟨(bothT.getD i []).toArray⟩ u]) ∈ nw → (l1, lO vs1 k1) ∈ nw → (l2, lO vs2 k2) ∈ nw →
      All2 (Two (c0T.getD i 0)) vs1 (s0T.getD i []) → All2 (Two (c1T.getD i 0)) vs2 (s1T.getD i []) → Q (.ref tp) s') : wpAny (model P0 w) A (call (.ref a) [.int i t]) Q E s := by
  refine enter (binds := [("which", .int i t)]) R F G.nolimit (fun _ _ _ => rfl) (by kernel_rfl) (by decide +kernel) (fun cd s₁ cells S X => ?_) (by intro n; exact List.nodup_nil)
  cases X
  refine wpAny_execs_cons ?_
  walk_at "as"
  with_reducible refine List_ ?_
  iterate 4 walk_at "cs"
  walk_at "sp0"
  refine r_newlist (by assumption) (by simp) fun q0 s20 S20 => ?_
  walk_at "st"
  walk_at "ec"
  walk_at "as"
  with_reducible refine List_ ?_
  iterate 4 walk_at "cs"
  walk_at "sp0"
  refine r_newlist (by assumption) (by simp) fun q1 s21 S21 => ?_
  walk_at "st"
  walk_at "ec"
  walk_at "as"
  with_reducible refine List_ ?_
  iterate 4 walk_at "cs"
  walk_at "sp0"
  refine r_newlist (by assumption) (by simp) fun q2 s22 S22 => ?_
  walk_at "st"
  walk_at "ec"
  walk_at "ret"
  with_reducible refine Subscript_ ?_
  with_reducible refine List_ ?_
  walk_at "more"
  with_reducible refine Tuple_ ?_
  walk_at "more"
  with_reducible refine List_ ?_
  iterate 4 walk_at "cs"
  walk_at "sp0"
  refine r_newlist (by assumption) (by simp) fun l0 s30 S30 => ?_
  walk_at "more"
  walk_at "ld"
  walk_at "cs"
  walk_at "sp0"
  refine r_newtuple (by assumption) (by simp) fun t0 s40 S40 => ?_
  walk_at "more"
  with_reducible refine Tuple_ ?_
  walk_at "more"
  with_reducible refine List_ ?_
  iterate 4 walk_at "cs"
  walk_at "sp0"
  refine r_newlist (by assumption) (by simp) fun l1 s31 S31 => ?_
  walk_at "more"
  walk_at "ld"
  walk_at "cs"
  walk_at "sp0"
  refine r_newtuple (by assumption) (by simp) fun t1 s41 S41 => ?_
  walk_at "more"
  with_reducible refine Tuple_ ?_
  walk_at "more"
  with_reducible refine List_ ?_
  iterate 4 walk_at "cs"
  walk_at "sp0"
  refine r_newlist (by assumption) (by simp) fun l2 s32 S32 => ?_
  walk_at "more"
  walk_at "ld"
  walk_at "cs"
  walk_at "sp0"
  refine r_newtuple (by assumption) (by simp) fun t2 s42 S42 => ?_
  walk_at "more"
  with_reducible refine Tuple_ ?_
  walk_at "more"
  with_reducible refine List_ ?_
  iterate 4 walk_at "cs"
  walk_at "sp0"
  refine r_newlist (by assumption) (by simp) fun l3 s33 S33 => ?_
  walk_at "more"
  walk_at "ld"
  walk_at "cs"
  walk_at "sp0"
  refine r_newtuple (by assumption) (by simp) fun t3 s43 S43 => ?_
  walk_at "more"
  with_reducible refine Tuple_ ?_
  walk_at "more"
  with_reducible refine List_ ?_
  iterate 4 walk_at "cs"
  walk_at "sp0"
  refine r_newlist (by assumption) (by simp) fun l4 s34 S34 => ?_
  walk_at "more"
  walk_at "ld"
  walk_at "cs"
  walk_at "sp0"
  refine r_newtuple (by assumption) (by simp) fun t4 s44 S44 => ?_
  walk_at "more"
  with_reducible refine Tuple_ ?_
  walk_at "more"
  with_reducible refine List_ ?_
  iterate 4 walk_at "cs"
  walk_at "sp0"
  refine r_newlist (by assumption) (by simp) fun l5 s35 S35 => ?_
  walk_at "more"
  walk_at "ld"
  walk_at "cs"
  walk_at "sp0"
  refine r_newtuple (by assumption) (by simp) fun t5 s45 S45 => ?_
  walk_at "more"
  with_reducible refine Tuple_ ?_
  walk_at "more"
  with_reducible refine List_ ?_
  iterate 4 walk_at "cs"
  walk_at "sp0"
  refine r_newlist (by assumption) (by simp) fun l6 s36 S36 => ?_
  walk_at "more"
  walk_at "ld"
  walk_at "cs"
  walk_at "sp0"
  refine r_newtuple (by assumption) (by simp) fun t6 s46 S46 => ?_
  walk_at "sp0"
  refine r_newlist (by assumption) (by simp) fun lz sz Sz => ?_
  walk_at "ld"
  have hc : i = 0 ∨ i = 1 ∨ i = 2 ∨ i = 3 ∨ i = 4 ∨ i = 5 ∨ i = 6 := by omega
  rcases hc with rfl | rfl | rfl | rfl | rfl | rfl | rfl
  · refine kba_turn (value' := Expr.Name (Str.ofString "x") default) (by intro _; rfl) ?_
    refine item_listL (lO_list (Sz.mem (.head _))) (by decide) (by decide) rfl ?_
    refine h t0 l0 ?l2_0 ?v1_0 ?v2_0 ?k1_0 ?k2_0 ?u_0 _ _ Sz.made ?m1_0 ?m2_0 ?m3_0 ?a1_0 ?a2_0
    case m1_0 =>
      refine mem_tuple_str (x := ?xx_0) ?ee_0 ?mm_0
      case mm_0 => walk_at "mm"
      case ee_0 => decide +kernel
    case m2_0 => walk_at "mm"
    case m3_0 => walk_at "mm"
    case a1_0 => exact .cons (two_of (by decide +kernel)) (.cons (two_of (by decide +kernel)) (.cons (two_of (by decide +kernel)) (.cons (two_of (by decide +kernel)) .nil)))
    case a2_0 => exact .cons (two_of (by decide +kernel)) (.cons (two_of (by decide +kernel)) (.cons (two_of (by decide +kernel)) (.cons (two_of (by decide +kernel)) .nil)))
  · refine kba_turn (value' := Expr.Name (Str.ofString "x") default) (by intro _; rfl) ?_
    refine item_listL (lO_list (Sz.mem (.head _))) (by decide) (by decide) rfl ?_
    refine h t1 l1 ?l2_1 ?v1_1 ?v2_1 ?k1_1 ?k2_1 ?u_1 _ _ Sz.made ?m1_1 ?m2_1 ?m3_1 ?a1_1 ?a2_1
    case m1_1 =>
      refine mem_tuple_str (x := ?xx_1) ?ee_1 ?mm_1
      case mm_1 => walk_at "mm"
      case ee_1 => decide +kernel
    case m2_1 => walk_at "mm"
    case m3_1 => walk_at "mm"
    case a1_1 => exact .cons (two_of (by decide +kernel)) (.cons (two_of (by decide +kernel)) (.cons (two_of (by decide +kernel)) (.cons (two_of (by decide +kernel)) .nil)))
    case a2_1 => exact .cons (two_of (by decide +kernel)) (.cons (two_of (by decide +kernel)) (.cons (two_of (by decide +kernel)) (.cons (two_of (by decide +kernel)) .nil)))
  · refine kba_turn (value' := Expr.Name (Str.ofString "x") default) (by intro _; rfl) ?_
    refine item_listL (lO_list (Sz.mem (.head _))) (by decide) (by decide) rfl ?_
    refine h t2 l2 ?l2_2 ?v1_2 ?v2_2 ?k1_2 ?k2_2 ?u_2 _ _ Sz.made ?m1_2 ?m2_2 ?m3_2 ?a1_2 ?a2_2
    case m1_2 =>
      refine mem_tuple_str (x := ?xx_2) ?ee_2 ?mm_2
      case mm_2 => walk_at "mm"
      case ee_2 => decide +kernel
    case m2_2 => walk_at "mm"
    case m3_2 => walk_at "mm"
    case a1_2 => exact .cons (two_of (by decide +kernel)) (.cons (two_of (by decide +kernel)) (.cons (two_of (by decide +kernel)) (.cons (two_of (by decide +kernel)) .nil)))
    case a2_2 => exact .cons (two_of (by decide +kernel)) (.cons (two_of (by decide +kernel)) (.cons (two_of (by decide +kernel)) (.cons (two_of (by decide +kernel)) .nil)))
  · refine kba_turn (value' := Expr.Name (Str.ofString "x") default) (by intro _; rfl) ?_
    refine item_listL (lO_list (Sz.mem (.head _))) (by decide) (by decide) rfl ?_
    refine h t3 l3 ?l2_3 ?v1_3 ?v2_3 ?k1_3 ?k2_3 ?u_3 _ _ Sz.made ?m1_3 ?m2_3 ?m3_3 ?a1_3 ?a2_3
    case m1_3 =>
      refine mem_tuple_str (x := ?xx_3) ?ee_3 ?mm_3
      case mm_3 => walk_at "mm"
      case ee_3 => decide +kernel
    case m2_3 => walk_at "mm"
    case m3_3 => walk_at "mm"
    case a1_3 => exact .cons (two_of (by decide +kernel)) (.cons (two_of (by decide +kernel)) (.cons (two_of (by decide +kernel)) (.cons (two_of (by decide +kernel)) .nil)))
    case a2_3 => exact .cons (two_of (by decide +kernel)) (.cons (two_of (by decide +kernel)) (.cons (two_of (by decide +kernel)) (.cons (two_of (by decide +kernel)) .nil)))
  · refine kba_turn (value' := Expr.Name (Str.ofString "x") default) (by intro _; rfl) ?_
    refine item_listL (lO_list (Sz.mem (.head _))) (by decide) (by decide) rfl ?_
    refine h t4 l4 ?l2_4 ?v1_4 ?v2_4 ?k1_4 ?k2_4 ?u_4 _ _ Sz.made ?m1_4 ?m2_4 ?m3_4 ?a1_4 ?a2_4
    case m1_4 =>
      refine mem_tuple_str (x := ?xx_4) ?ee_4 ?mm_4
      case mm_4 => walk_at "mm"
      case ee_4 => decide +kernel
    case m2_4 => walk_at "mm"
    case m3_4 => walk_at "mm"
    case a1_4 => exact .cons (two_of (by decide +kernel)) (.cons (two_of (by decide +kernel)) (.cons (two_of (by decide +kernel)) (.cons (two_of (by decide +kernel)) .nil)))
    case a2_4 => exact .cons (two_of (by decide +kernel)) (.cons (two_of (by decide +kernel)) (.cons (two_of (by decide +kernel)) (.cons (two_of (by decide +kernel)) .nil)))
  · refine kba_turn (value' := Expr.Name (Str.ofString "x") default) (by intro _; rfl) ?_
    refine item_listL (lO_list (Sz.mem (.head _))) (by decide) (by decide) rfl ?_
    refine h t5 l5 ?l2_5 ?v1_5 ?v2_5 ?k1_5 ?k2_5 ?u_5 _ _ Sz.made ?m1_5 ?m2_5 ?m3_5 ?a1_5 ?a2_5
    case m1_5 =>
      refine mem_tuple_str (x := ?xx_5) ?ee_5 ?mm_5
      case mm_5 => walk_at "mm"
      case ee_5 => decide +kernel
    case m2_5 => walk_at "mm"
    case m3_5 => walk_at "mm"
    case a1_5 => exact .cons (two_of (by decide +kernel)) (.cons (two_of (by decide +kernel)) (.cons (two_of (by decide +kernel)) (.cons (two_of (by decide +kernel)) .nil)))
    case a2_5 => exact .cons (two_of (by decide +kernel)) (.cons (two_of (by decide +kernel)) (.cons (two_of (by decide +kernel)) (.cons (two_of (by decide +kernel)) .nil)))
  · refine kba_turn (value' := Expr.Name (Str.ofString "x") default) (by intro _; rfl) ?_
    refine item_listL (lO_list (Sz.mem (.head _))) (by decide) (by decide) rfl ?_
    refine h t6 l6 ?l2_6 ?v1_6 ?v2_6 ?k1_6 ?k2_6 ?u_6 _ _ Sz.made ?m1_6 ?m2_6 ?m3_6 ?a1_6 ?a2_6
    case m1_6 =>
      refine mem_tuple_str (x := ?xx_6) ?ee_6 ?mm_6
      case mm_6 => walk_at "mm"
      case ee_6 => decide +kernel
    case m2_6 => walk_at "mm"
    case m3_6 => walk_at "mm"
    case a1_6 => exact .cons (two_of (by decide +kernel)) (.cons (two_of (by decide +kernel)) (.cons (two_of (by decide +kernel)) (.cons (two_of (by decide +kernel)) .nil)))
    case a2_6 => exact .cons (two_of (by decide +kernel)) (.cons (two_of (by decide +kernel)) (.cons (two_of (by decide +kernel)) (.cons (two_of (by decide +kernel)) .nil)))
end
end partMine15
section partMine16
set_option autoImplicit false
theorem pylong_small {a b : Int} (h : b.natAbs < 2 ^ 64) : Builtin.divisionGoesByPylong a b = false := by
  unfold Builtin.divisionGoesByPylong
  have : ¬ ((if (b == 0) = true then 0 else b.natAbs.log2 / 30 + 1) > 300) := by
    split
    · omega
    · rename_i hb
      have h0 : b.natAbs ≠ 0 := by simpa using hb
      have := (Nat.log2_lt h0).mpr h
      omega
  simp only [this, decide_false, Bool.false_and]
section
variable {w : World} {A : Around} {E : Value → Shared → Prop} {s₀ s : Shared} {L : Addr} {m : Str → Option Value} {news : Nw} {env : Env} {mg mb : Str → Option Value}
theorem r_itemstr {value slice : Expr} {x : Str} {t u : Tok} {k : Int} {c : Nat} {Q : Value → Shared → Prop} (S : St s₀ L m news s) (h0 : 0 ≤ k) (h1 : k < 1000000) (hc : x.cps[k.toNat]? = some c)
    (h : ∀ t s', St s₀ L m news s' → Q (.str ⟨#[c]⟩ t) s') (hs : subscripted slice false (.str x t) (.int k u) = operate [.str x t, .int k u] (getItem (.str x t) (.int k u)) := by with_unfolding_all rfl) :
    wpAny (model P0 w) A (subscriptTail value slice (.str x t) (.int k u)) Q E s := by
  refine tail_any (typeIs_str s x t) F.slot_str_getitem.lookup (P.getItem_str (c := c) ?_ ?_ (h _ _ S.tok)) hs
  · simp; omega
  · have hl : k.toNat < x.cps.size := by
      rcases Nat.lt_or_ge k.toNat x.cps.size with q | q
      · exact q
      · rw [Array.getElem?_eq_none q] at hc; cases hc
    have hl' : k.toNat < x.length := hl
    have : seqIndex? k x.length = some k.toNat := by
      unfold seqIndex?
      have e1 : ¬ k < 0 := by omega
      have e2 : k < (x.length : Int) := by omega
      simp [e1, e2, h0]
    rw [this]; exact hc
theorem r_itemlist {value slice : Expr} {l : Addr} {vs : List Value} {k : Int} {u : Tok} {x : Value} {Q : Value → Shared → Prop} (hl : s.heap.IsList l vs.toArray) (h0 : 0 ≤ k) (h1 : k < 1000000) (hx : vs[k.toNat]? = some x) (h : Q x s)
    (hs : subscripted slice false (.ref l) (.int k u) = operate [.ref l, .int k u] (getItem (.ref l) (.int k u)) := by with_unfolding_all rfl) :
    wpAny (model P0 w) A (subscriptTail value slice (.ref l) (.int k u)) Q E s :=
  kba_turn (value' := Expr.Name (Str.ofString "x") default) (by intro _; rfl) (item_listL hl h0 (by omega) hx h hs)
theorem All2.get {α β : Type} {F : α → β → Prop} {as : List α} {bs : List β} (h : All2 F as bs) : ∀ {i : Nat} {b : β}, bs[i]? = some b → ∃ a, as[i]? = some a ∧ F a b := by
  induction h with
  | nil => intro i a e; simp at e
  | cons x _ ih =>
    intro i a e
    cases i with
    | zero => simp at e; subst e; exact ⟨_, by simp, x⟩
    | succ i => exact ih (i := i) (by simpa using e)
def signAt (g0 g1 : List Nat) (bs : List Int) (d : Int) (k : Nat) : Nat := (if bs.getD k 0 = 0 then g0 else g1).getD ((d.fdiv (4 ^ k)).fmod 4).toNat 0
def spelledOf (g0 g1 : List Nat) (bs : List Int) (d : Int) : List Nat := (List.range bs.length).map (signAt g0 g1 bs d)
theorem cells_nodup_aux : ∀ (names : List (Str × NameKind)) (n : Nat) (acc : List (Str × Addr)), (acc.map (·.2)).Nodup → (∀ x ∈ acc, x.2 < n) → ((cellsFrom n names acc).map (·.2)).Nodup
  | [], _, acc, h, _ => h
  | (y, k) :: r, n, acc, h, hb => by
    unfold cellsFrom
    split
    · refine cells_nodup_aux r (n + 1) _ ?_ ?_
      · rw [List.map_cons, List.nodup_cons]
        refine ⟨fun hm => ?_, h⟩
        obtain ⟨x, hx, q⟩ := List.mem_map.mp hm
        have := hb x hx
        rw [q] at this
        exact Nat.lt_irrefl _ this
      · intro x hx
        rcases List.mem_cons.mp hx with rfl | hx
        · exact Nat.lt_succ_self _
        · exact Nat.lt_succ_of_lt (hb x hx)
    · exact cells_nodup_aux r n acc h hb
theorem cells_nodup (names : List (Str × NameKind)) : ∀ n, ((cellsFrom n names []).map (·.2)).Nodup := fun n => cells_nodup_aux names n [] List.nodup_nil (fun _ h => nomatch h)
theorem cellsThree {cm : Str → Option Value} {n1 n2 n3 : Str} {c1 c2 c3 : Addr} {cells : Nw} (x : CellsAre cm [(n1, c1), (n2, c2), (n3, c3)] cells) :
    ∃ o1 o2 o3, cells = [(c1, o1), (c2, o2), (c3, o3)] ∧ o1.data = .cell (cm n1) ∧ o2.data = .cell (cm n2) ∧ o3.data = .cell (cm n3) := by
  cases x with | cons h r => obtain ⟨o, o', rfl, h1, h2⟩ := r.two; exact ⟨_, _, _, rfl, h, h1, h2⟩
set_option maxHeartbeats 1000000 in
theorem c_spelled {a pa l1 l2 ra : Addr} {vs1 vs2 vs : List Value} {g0 g1 : List Nat} {e0 e1 : Nat} {bs : List Int} {d : Int} {t : Tok} {Q : Value → Shared → Prop} (R : Room A 1) (G : Gl w mg mb s.heap) (F : FnAt s.heap (D 20) a)
    (hp : s.heap.get? pa = some (tO [.ref l1, .ref l2])) (h1 : s.heap.IsList l1 vs1.toArray) (h2 : s.heap.IsList l2 vs2.toArray) (hv1 : All2 (Two e0) vs1 g0) (hv2 : All2 (Two e1) vs2 g1) (hg0 : g0.length = 4) (hg1 : g1.length = 4)
    (hr : s.heap.IsList ra vs.toArray) (hv : IntsAre vs bs) (hb : Bits bs) (hl : bs.length ≤ 8)
    (h : ∀ Dr ys k s', Made s [(Dr, lO ys k)] s' → ChAre ys (spelledOf g0 g1 bs d) → Q (.ref Dr) s') : wpAny (model P0 w) A (call (.ref a) [.ref pa, .ref ra, .int d t]) Q E s := by
  refine enter (binds := [("signs", .ref pa), ("row", .ref ra), ("digits", .int d t)]) R F G.nolimit (fun _ _ _ => rfl) (by kernel_rfl) (by decide +kernel) (fun cd s₁ cells S X => ?_) (cells_nodup _)
  obtain ⟨o1, o2, o3, rfl, hd1, hd2, hd3⟩ := cellsThree X
  have hh := (R.deeper (env := envOfC (D 20).name (D 20).scope s.heap.objs.size a cd)).handled
  have hvl := ints_len hv
  have hrl : s₁.heap.IsList ra vs.toArray := by obtain ⟨ol, e, r⟩ := hr; exact ⟨ol, S.base e, r⟩
  have hcs : s₁.heap.IsCell (s.heap.objs.size + 1) (some (.ref pa)) := ⟨o3, S.mem (.tail _ (.tail _ (.head _))), by rw [hd3]; rfl⟩
  have hcr : s₁.heap.IsCell (s.heap.objs.size + 1 + 1) (some (.ref ra)) := ⟨o2, S.mem (.tail _ (.head _)), by rw [hd2]; rfl⟩
  have hcd : s₁.heap.IsCell (s.heap.objs.size + 1 + 1 + 1) (some (.int d t)) := ⟨o1, S.mem (.head _), by rw [hd1]; rfl⟩
  refine wpAny_execs_cons ?_
  walk_at "ret"
  refine r_lc (cl := [("signs", s.heap.objs.size + 1), ("row", s.heap.objs.size + 1 + 1), ("digits", s.heap.objs.size + 1 + 1 + 1)]) (by kernel_rfl) (by kernel_rfl) (by decide +kernel) ?_
  walk_at "call"
  walk_at "bi range"
  refine PyProof.Rows.callWith_type1 ?_
  walk_at "more"
  walk_at "call"
  walk_at "bi len"
  refine PyProof.Rows.callWith_builtin1 ?_
  walk_at "more"
  refine r_cell (by kernel_rfl) hcr ?_ (by kernel_rfl) (by kernel_rfl) (by kernel_rfl)
  walk_at "sp0"
  refine r_lenlist S hrl (by omega) fun t₂ s₂ S₂ => ?_
  walk_at "sp0"
  refine r_range1 S₂ fun r u v s₃ S₃ => ?_
  have hcs : s₃.heap.IsCell (s.heap.objs.size + 1) (some (.ref pa)) := ⟨o3, S₃.mem (.tail _ (.tail _ (.tail _ (.head _)))), by rw [hd3]; rfl⟩
  have hcr : s₃.heap.IsCell (s.heap.objs.size + 1 + 1) (some (.ref ra)) := ⟨o2, S₃.mem (.tail _ (.tail _ (.head _))), by rw [hd2]; rfl⟩
  have hcd : s₃.heap.IsCell (s.heap.objs.size + 1 + 1 + 1) (some (.int d t)) := ⟨o1, S₃.mem (.tail _ (.head _)), by rw [hd1]; rfl⟩
  have hrl : s₃.heap.IsList ra vs.toArray := by obtain ⟨ol, e, r⟩ := hr; exact ⟨ol, S₃.base e, r⟩
  refine ⟨_, blk_one (n := bs.length) (P := fun i v => ∃ t, v = .int i t) (fun j ys m' nw' => nw' = [] ∧ ChAre ys ((List.range j).map (signAt g0 g1 bs d))) (hvl ▸ src_range hh (S₃.mem (.head _)) (by omega)) (by rw [sizeLine_eq]; omega) (by decide +kernel) (by kernel_rfl) ⟨rfl, .nil⟩ ?_ ?_ (by intro _ _; rfl), ?_⟩
  · rintro j ys m' nw' ⟨_, hc⟩
    have := hc.length
    simp at this; omega
  · rintro C Dd j k v' ys m' nw' I oo s' hj ⟨tk, rfl⟩ ⟨rfl, hys⟩ S'
    have hk8 : j < 8 := by omega
    have hbj : ∃ b, bs[j]? = some b ∧ (b = 0 ∨ b = 1) := ⟨bs[j], by simp [hj], hb _ (List.getElem_mem hj)⟩
    obtain ⟨b, hbe, hbb⟩ := hbj
    obtain ⟨tb, htb⟩ := ints_get hv hbe
    with_reducible refine PyProof.Rows.assign_Name ?_
    walk_at "st"
    rename_i s₄ S₄
    refine wpAny_tests_nil ?_
    rw [if_pos rfl]
    with_reducible refine Subscript_ ?_
    with_reducible refine Subscript_ ?_
    with_reducible refine Subscript_ ?_
    refine r_cell (by kernel_rfl) (hcs.keeps S₄.fr.keep) ?_ (by kernel_rfl) (by kernel_rfl) (by kernel_rfl)
    with_reducible refine Subscript_ ?_
    refine r_cell (by kernel_rfl) (hcr.keeps S₄.fr.keep) ?_ (by kernel_rfl) (by kernel_rfl) (by kernel_rfl)
    walk_at "ld"
    have hrl4 : s₄.heap.IsList ra vs.toArray := by obtain ⟨ol, e, r⟩ := hrl; exact ⟨ol, S₄.base e, r⟩
    refine r_itemlist hrl4 (by omega) (by omega) (x := .int b tb) (by simpa using htb) ?_
    have ht : IsTup s₄.heap pa [Value.ref l1, .ref l2].toArray := ⟨_, S₄.base (S₃.base hp), rfl, _, rfl⟩
    have hl1 : s₃.heap.IsList l1 vs1.toArray := by obtain ⟨ol, e, r⟩ := h1; exact ⟨ol, S₃.base e, r⟩
    have hl2 : s₃.heap.IsList l2 vs2.toArray := by obtain ⟨ol, e, r⟩ := h2; exact ⟨ol, S₃.base e, r⟩
    obtain ⟨lx, vx, gx, ex, hix, hlx, hvx, hgx, hif, hb0, hb1⟩ : ∃ (lx : Addr) (vx : List Value) (gx : List Nat) (ex : Nat), [Value.ref l1, .ref l2][b.toNat]? = some (.ref lx) ∧ s₃.heap.IsList lx vx.toArray ∧ All2 (Two ex) vx gx ∧ gx.length = 4 ∧ (if bs.getD j 0 = 0 then g0 else g1) = gx ∧ 0 ≤ b ∧ b < 2 := by
      rcases hbb with rfl | rfl
      · exact ⟨l1, vs1, g0, e0, rfl, hl1, hv1, hg0, by rw [List.getD_eq_getElem?_getD, hbe]; rfl, by decide, by decide⟩
      · exact ⟨l2, vs2, g1, e1, rfl, hl2, hv2, hg1, by rw [List.getD_eq_getElem?_getD, hbe]; rfl, by decide, by decide⟩
    refine item_tupleL (j := b.toNat) (x := .ref lx) ht (by omega) (by omega) (by rcases hbb with rfl | rfl <;> rfl) hix ?_
    with_reducible refine wpAny_BinOp ?_
    with_reducible refine wpAny_BinOp ?_
    refine r_cell (by kernel_rfl) (hcd.keeps S₄.fr.keep) ?_ (by kernel_rfl) (by kernel_rfl) (by kernel_rfl)
    with_reducible refine wpAny_BinOp ?_
    with_reducible refine r_int S₄ fun t₅ s₅ S₅ => ?_
    walk_at "ld"
    refine r_pow S₅ (by omega) (by omega) (by decide) fun t₆ s₆ S₆ => ?_
    have hpw : ((4 : Int) ^ (j : Int).toNat) ≠ 0 ∧ ((4 : Int) ^ (j : Int).toNat).natAbs < 2 ^ 64 := by
      have : j = 0 ∨ j = 1 ∨ j = 2 ∨ j = 3 ∨ j = 4 ∨ j = 5 ∨ j = 6 ∨ j = 7 := by omega
      rcases this with rfl | rfl | rfl | rfl | rfl | rfl | rfl | rfl <;> decide
    refine r_fdiv S₆ hpw.1 (pylong_small hpw.2) fun t₇ s₇ S₇ => ?_
    with_reducible refine r_int S₇ fun t₈ s₈ S₈ => ?_
    refine r_mod S₈ (by decide) fun t₉ s₉ S₉ => ?_
    obtain ⟨q0, q1⟩ := fmod_lt (i := d.fdiv (4 ^ (j : Int).toNat)) (n := 4) (by decide)
    generalize hq : (d.fdiv (4 ^ (j : Int).toNat)).fmod 4 = q at q0 q1
    have hqn : ∃ c, gx[q.toNat]? = some c := ⟨gx[q.toNat]'(by omega), by simp⟩
    obtain ⟨c, hc⟩ := hqn
    obtain ⟨vq, hvq, tq, rfl⟩ := hvx.get hc
    have hlx9 : s₉.heap.IsList lx vx.toArray := by obtain ⟨ol, e, r⟩ := hlx; exact ⟨ol, S₉.base e, r⟩
    refine r_itemlist hlx9 q0 (by omega) hvq ?_
    with_reducible refine r_int S₉ fun t₁₀ s₁₀ S₁₀ => ?_
    refine r_itemstr S₁₀ (c := c) (by decide) (by decide) rfl fun t₁₁ s₁₁ S₁₁ => ?_
    refine ⟨_, _, S₁₁, rfl, ?_⟩
    rw [List.range_succ, List.map_append]
    refine hys.append ?_
    have : signAt g0 g1 bs d j = c := by
      unfold signAt
      rw [hif, show ((d.fdiv (4 ^ j)).fmod 4) = q from hq, List.getD_eq_getElem?_getD, hc]; rfl
    simp only [List.map_cons, List.map_nil, this]
    exact .cons c t₁₁ .nil
  · rintro Dd k ys nw' s' ⟨m', rfl, hys⟩ Md
    exact h Dd ys k s' ((S₃.join Md).made.weaken (by exact List.Sublist.cons_cons _ (List.nil_sublist _))) hys
end
end partMine16
section partMine17
set_option autoImplicit false
section
variable {w : World} {A : Around} {E : Value → Shared → Prop} {s₀ s : Shared} {L : Addr} {m : Str → Option Value} {news : Nw} {env : Env} {mg mb : Str → Option Value}
theorem r_storecell {x : Str} {v : Value} {c : Addr} {o : Obj} {v₀ : Option Value} {Q : Unit → Shared → Prop} (S : St s₀ L m ((c, o) :: news) s) (ho : o.data = .cell v₀)
    (h : ∀ o' s', o'.data = .cell (some v) → St s₀ L m ((c, o') :: news) s' → Q () s')
    (hk : env.scope.kind = .function) (hl : env.kindOf x = some .cell) (hc : env.cells.lookup x = some c) :
    wpAny (model P0 w) A (storeName env x v) Q E s :=
  wpAny_storeName_cell hk hl hc ⟨o, S.mem (.head _), ho⟩ fun h' hi hs => let ⟨o', e1, e2⟩ := hi; h o' _ e2 (S.upd (d := s.drawn) (k := s.toks) 0 rfl hs e1)
theorem r_slicelist {value : Expr} {lower upper : Option Expr} {p : Pos} {l : Addr} {Q : Value → Shared → Prop}
    (h : wpAny (model P0 w) A (evalPart lower env) (fun vl s₁ => wpAny (model P0 w) A (evalPart upper env) (fun vu s₂ =>
      ∃ lo hi vs us m news, IsPart vl lo ∧ IsPart vu hi ∧ St s₀ L m news s₂ ∧ s₂.heap.IsList l vs ∧ vs.size ≤ 10000 ∧ slicePick vs lo hi none = List.toArray us ∧ ∀ a s', St s₀ L m ((a, lO us 0) :: news) s' → Q (.ref a) s') E s₁) E s)
    (hs : ∀ x, subscripted (.Slice lower upper none p) false (.ref l) (.ref x) = operate [.ref x, .ref l] (getItem (.ref l) (.ref x)) := by intro _; with_unfolding_all rfl)
    (ht : ∀ r, letTemporaryGo value (.ref l) r = pure () := by intro _; with_unfolding_all rfl) :
    wpAny (model P0 w) A (eval (.Slice lower upper none p) env) (fun i s₂ => wpAny (model P0 w) A (subscriptTail value (.Slice lower upper none p) (.ref l) i) Q E s₂) E s := by
  refine wpAny_Slice (wpAny_mono h (fun vl s₁ h₁ => wpAny_mono h₁ (fun vu s₂ h₂ => ?_) fun _ _ e => e) fun _ _ e => e)
  obtain ⟨lo, hi, vs, us, m, news, pl, pu, S, hl, hz, hu, fin⟩ := h₂
  refine evalPart_none_step ?_
  refine slice_list S.fr S.nw hl pl pu (fun h' F' N' => ?_) (hs _) ht (by rw [sizeLine_eq]; omega)
  rw [hu] at N'
  exact fin _ _ (S.new (d := s₂.drawn) (k := s₂.toks) F' (fun p hp => N' p (.tail _ hp)) (N' _ (.head _)).1 (Nat.le_succ _))
theorem r_sum {xv : Value} {n : Nat} {P : Nat → Value → Prop} {val : Nat → Int} {Q : Value → Shared → Prop} (S : St s₀ L m news s) (hsrc : Src w A.in1 xv s n P) (hv : ∀ i v, P i v → ∃ t, v = .int (val i) t)
    (h : ∀ t s', St s₀ L m news s' → Q (.int (preSum val n) t) s') : wpAny (model P0 w) A (call (.builtin "sum") [xv]) Q E s := by
  refine call_sum_walkG (hsrc _ _ fun I oI fp IS s₂ W hasI e₁₂ hIn hI2 hg hIS hb => ?_)
  refine ⟨I, fp, _, n, P, IS, val, rfl, W, hIS, fun b hbm => ?_, hv, fun h' tk t' hk => ?_⟩
  · by_cases q : b = I
    · rw [q]; exact Heap.lt_size hI2
    · obtain ⟨o, e, _⟩ := hb b hbm q
      exact Heap.lt_size (e₁₂.keep _ _ e)
  · refine h t' _ (S.step ⟨fun b o e => ?_, e₁₂.gens, e₁₂.os⟩)
    refine hk b o ?_ (e₁₂.keep _ _ e)
    intro hm
    have : b = I := by simpa using hm
    rw [this, hIn] at e; cases e
theorem preSum_getD (ns : List Int) : ∀ n, n ≤ ns.length → preSum (fun i => ns.getD i 0) n = (ns.take n).sum
  | 0, _ => rfl
  | n + 1, h => by
    show preSum _ n + _ = _
    rw [preSum_getD ns n (by omega), List.take_add_one]
    have : ns[n]? = some (ns[n]'(by omega)) := List.getElem?_eq_getElem _
    rw [this, List.sum_append]
    simp [List.getD_eq_getElem?_getD, this]
end
def onesOf (bs : List Int) : Int := (bs.filter (· == 1)).length
def placesOf (bs : List Int) (n : Nat) : List Int := ((List.range n).filter fun k => bs.getD k 0 == 1).map fun (k : Nat) => (k : Int) + 1
def lackOf (bs : List Int) (rest : Int) : Int := (rest - (placesOf bs bs.length).sum).fmod (bs.length + 2)
def putOf (bs : List Int) (rest : Int) : Int := if onesOf bs < lackOf bs rest then 1 else 0
def aheadOf (bs : List Int) (rest : Int) : Int := if onesOf bs < lackOf bs rest then lackOf bs rest - onesOf bs - 1 else onesOf bs - lackOf bs rest
def behind (bs : List Int) (put : Int) (p : Nat) : Int := ((bs.take p).filter (· != put)).length
def goPlace (bs : List Int) (put ahead : Int) : Nat → Nat → Nat
  | 0, p => p
  | f + 1, p => if behind bs put p < ahead then goPlace bs put ahead f (p + 1) else p
def placeOf (bs : List Int) (rest : Int) : Nat := goPlace bs (putOf bs rest) (aheadOf bs rest) (bs.length + 1) 0
theorem bits_count : ∀ (bs : List Int), Bits bs → ((bs.filter (· != 0)).length : Int) = onesOf bs ∧ ((bs.filter (· != 1)).length : Int) = bs.length - onesOf bs
  | [], _ => ⟨rfl, rfl⟩
  | b :: bs, h => by
    have ih := bits_count bs fun x hx => h x (.tail _ hx)
    unfold onesOf at ih ⊢
    rcases h b (.head _) with rfl | rfl <;> simp only [List.filter_cons] <;> simp <;> omega
theorem ahead_le {bs : List Int} {rest : Int} (h : Bits bs) : aheadOf bs rest ≤ behind bs (putOf bs rest) bs.length := by
  have hc := bits_count bs h
  unfold behind aheadOf putOf
  rw [List.take_length]
  have h0 := (fmod_lt (i := rest - (placesOf bs bs.length).sum) (n := bs.length + 2) (by omega))
  have h1 : 0 ≤ lackOf bs rest := h0.1
  have h2 : lackOf bs rest < bs.length + 2 := h0.2
  have h3 : (onesOf bs) ≤ bs.length := by unfold onesOf; have := List.length_filter_le (· == (1 : Int)) bs; omega
  split
  · rw [hc.2]; omega
  · rw [hc.1]; omega
end partMine17
section partMine18
set_option autoImplicit false
section
variable {w : World} {A : Around} {E : Value → Shared → Prop} {s₀ s : Shared} {L : Addr} {m : Str → Option Value} {news : Nw} {env : Env} {mg mb : Str → Option Value}
theorem isList_base {l : Addr} {vs : Array Value} (S : St s₀ L m news s) (h : s₀.heap.IsList l vs) : s.heap.IsList l vs := let ⟨o, e, r⟩ := h; ⟨o, S.base e, r⟩
theorem filter_take_succ {α : Type} {p : α → Bool} {bs : List α} {j : Nat} {b : α} (h : bs[j]? = some b) : (bs.take (j + 1)).filter p = (bs.take j).filter p ++ (if p b = true then [b] else []) := by
  rw [List.take_add_one, h, List.filter_append]
  simp only [Option.toList_some, List.filter_cons, List.filter_nil]
set_option maxHeartbeats 1000000 in
theorem c_mended {a ra : Addr} {vs : List Value} {bs : List Int} {rest : Int} {tr : Tok} {Q : Value → Shared → Prop} (R : Room A 1) (G : Gl w mg mb s.heap) (F : FnAt s.heap (D 23) a)
    (hr : s.heap.IsList ra vs.toArray) (hv : IntsAre vs bs) (hb : Bits bs) (hl : bs.length ≤ 10)
    (h : ∀ Dt t u s', Made s [(Dt, tO [.int (placeOf bs rest) t, .int (putOf bs rest) u])] s' → Q (.ref Dt) s') : wpAny (model P0 w) A (call (.ref a) [.ref ra, .int rest tr]) Q E s := by
  refine enter (binds := [("row", .ref ra), ("rest", .int rest tr)]) R F G.nolimit (fun _ _ _ => rfl) (by kernel_rfl) (by decide +kernel) (fun cd s₁ cells S X => ?_) (cells_nodup _)
  obtain ⟨o1, o2, rfl, hd1, hd2⟩ := CellsAre.two X
  have hh := (R.deeper (env := envOfC (D 23).name (D 23).scope s.heap.objs.size a cd)).handled
  have hvl := ints_len hv
  have hcr : ∀ {s'' : Shared} {m' nw'}, St s s.heap.objs.size m' nw' s'' → (s.heap.objs.size + 1, o2) ∈ nw' → s''.heap.IsCell (s.heap.objs.size + 1) (some (.ref ra)) := fun S hm => ⟨o2, S.mem hm, by rw [hd2]; rfl⟩
  have hd1' : o1.data = .cell none := hd1
  -- ones
  refine wpAny_execs_cons ?_
  walk_at "as"
  walk_at "call"
  walk_at "bi len"
  refine PyProof.Rows.callWith_builtin1 ?_
  walk_at "more"
  refine r_comp (cl := []) (by kernel_rfl) (by decide +kernel) (by kernel_rfl) (by decide +kernel) ?_
  refine r_cell (by kernel_rfl) (hcr S (.tail _ (.head _))) ?_ (by kernel_rfl) (by kernel_rfl) (by kernel_rfl)
  refine ⟨_, _, fun j ys m' nw' => nw' = [] ∧ IntsAre ys ((bs.take j).filter (· == 1)), src_list hh (isList_base S hr), by rw [List.size_toArray, hvl, sizeLine_eq]; omega, ⟨rfl, .nil⟩, ?_, ?_, ?_⟩
  · rintro j ys m' nw' ⟨_, hc⟩
    have h1 := ints_len hc
    have h2 := List.length_filter_le (· == (1 : Int)) (bs.take j)
    have h3 : (bs.take j).length ≤ j := List.length_take_le ..
    omega
  · rintro C Dd j k v ys m' nw' I oo s' hj hv' ⟨rfl, hc⟩ S'
    have hv'' : vs[j]? = some v := by simpa using hv'
    obtain ⟨b, tb, hbj, rfl⟩ := ints_at hv hv''
    with_reducible refine PyProof.Rows.assign_Name ?_
    walk_at "st"
    rename_i s₄ S₄
    refine wpAny_tests_one ?_
    refine wpAny_isTrue_Compare1 ?_
    walk_at "ld"
    refine r_int S₄ fun t₅ s₅ S₅ => ?_
    refine eq_int ?_
    refine wpAny_truthy_bool ?_
    have hf := filter_take_succ (p := (· == (1 : Int))) hbj
    by_cases q : (b == 1) = true
    · rw [if_pos q] at hf ⊢
      walk_at "ld"
      exact ⟨_, _, S₅, rfl, by rw [hf]; exact ints_app hc (.cons _ _ .nil)⟩
    · rw [if_neg q] at hf ⊢
      exact ⟨_, _, S₅, rfl, by rw [hf, List.append_nil]; exact hc⟩
  rintro Dd k ys m' nw' s' ⟨rfl, hc⟩ Md
  have S₂ := S.join Md
  walk_at "sp0"
  rw [show vs.toArray.size = bs.length from by rw [List.size_toArray, hvl], List.take_length] at hc
  have hyl := ints_len hc
  have hfl := List.length_filter_le (· == (1 : Int)) bs
  refine r_lenlist S₂ (lO_list (S₂.mem (.head _))) (by omega) fun t₃ s₃ S₃ => ?_
  have hones : (ys.length : Int) = onesOf bs := by rw [hyl]; rfl
  rw [hones]
  walk_at "st"
  rename_i s₄ S₄
  -- lack
  walk_at "ec"
  walk_at "as"
  with_reducible refine wpAny_BinOp ?_
  with_reducible refine wpAny_BinOp ?_
  walk_at "ld"
  walk_at "call"
  walk_at "bi sum"
  refine PyProof.Rows.callWith_builtin1 ?_
  walk_at "more"
  refine r_comp (cl := [("row", s.heap.objs.size + 1)]) (by kernel_rfl) (by decide +kernel) (by kernel_rfl) (by decide +kernel) ?_
  walk_at "call"
  walk_at "bi range"
  refine PyProof.Rows.callWith_type1 ?_
  walk_at "more"
  walk_at "call"
  walk_at "bi len"
  refine PyProof.Rows.callWith_builtin1 ?_
  walk_at "more"
  refine r_cell (by kernel_rfl) (hcr S₄ (.tail _ (.tail _ (.head _)))) ?_ (by kernel_rfl) (by kernel_rfl) (by kernel_rfl)
  walk_at "sp0"
  refine r_lenlist S₄ (isList_base S₄ hr) (by omega) fun t₅ s₅ S₅ => ?_
  walk_at "sp0"
  refine r_range1 S₅ fun r u v s₆ S₆ => ?_
  rw [hvl] at S₆
  refine ⟨_, _, fun j ys m' nw' => nw' = [] ∧ IntsAre ys (placesOf bs j), src_range hh (S₆.mem (.head _)) (by omega), by rw [sizeLine_eq]; omega, ⟨rfl, .nil⟩, ?_, ?_, ?_⟩
  · rintro j ys m' nw' ⟨_, hc⟩
    have h1 := ints_len hc
    unfold placesOf at h1
    rw [List.length_map] at h1
    have h2 := List.length_filter_le (fun k => bs.getD k 0 == 1) (List.range j)
    rw [List.length_range] at h2
    omega
  · rintro C Dd j k v ys m' nw' I oo s' hj ⟨tv, rfl⟩ ⟨rfl, hc⟩ S'
    have hbj : bs[j]? = some (bs[j]'hj) := List.getElem?_eq_getElem _
    generalize bs[j]'hj = b at hbj
    obtain ⟨tb, htb⟩ := ints_get hv hbj
    with_reducible refine PyProof.Rows.assign_Name ?_
    walk_at "st"
    rename_i s₇ S₇
    refine wpAny_tests_one ?_
    refine wpAny_isTrue_Compare1 ?_
    with_reducible refine Subscript_ ?_
    refine r_cell (by kernel_rfl) ((hcr S₆ (.tail _ (.tail _ (.tail _ (.head _))))).keeps S₇.fr.keep) ?_ (by kernel_rfl) (by kernel_rfl) (by kernel_rfl)
    walk_at "ld"
    refine r_itemlist (isList_base S₇ (isList_base S₆ hr)) (by omega) (by omega) (x := .int b tb) (by simpa using htb) ?_
    refine r_int S₇ fun t₈ s₈ S₈ => ?_
    refine eq_int ?_
    refine wpAny_truthy_bool ?_
    have hf : placesOf bs (j + 1) = placesOf bs j ++ (if (b == 1) = true then [(j : Int) + 1] else []) := by
      unfold placesOf
      rw [List.range_succ, List.filter_append, List.map_append]
      simp only [List.filter_cons, List.filter_nil, List.getD_eq_getElem?_getD, hbj, Option.getD_some]
      split <;> rfl
    by_cases q : (b == 1) = true
    · rw [if_pos q] at hf ⊢
      with_reducible refine wpAny_BinOp ?_
      walk_at "ld"
      refine r_int S₈ fun t₉ s₉ S₉ => ?_
      refine r_add S₉ fun t₁₀ s₁₀ S₁₀ => ?_
      exact ⟨_, _, S₁₀, rfl, by rw [hf]; exact ints_app hc (.cons _ _ .nil)⟩
    · rw [if_neg q] at hf ⊢
      exact ⟨_, _, S₈, rfl, by rw [hf, List.append_nil]; exact hc⟩
  rintro Dd2 k2 ys2 m' nw' s₇ ⟨rfl, hc2⟩ Md2
  have S₇ := S₆.join Md2
  walk_at "sp0"
  have hpl := ints_len hc2
  refine r_sum (val := fun i => (placesOf bs bs.length).getD i 0) S₇ (src_list (by exact hh) (lO_list (S₇.mem (.head _)))) (fun i v hP => ?_) fun t₈ s₈ S₈ => ?_
  · have hP' : ys2[i]? = some v := by simpa using hP
    obtain ⟨n, tn, hn, rfl⟩ := ints_at hc2 hP'
    exact ⟨tn, by simp [List.getD_eq_getElem?_getD, hn]⟩
  rw [show ys2.toArray.size = (placesOf bs bs.length).length from by rw [List.size_toArray, hpl], preSum_getD _ _ (Nat.le_refl _), List.take_length]
  refine r_sub S₈ fun t₉ s₉ S₉ => ?_
  with_reducible refine wpAny_BinOp ?_
  walk_at "call"
  walk_at "bi len"
  refine PyProof.Rows.callWith_builtin1 ?_
  walk_at "more"
  have S₉ := S₉.weaken (news' := [(s.heap.objs.size + 1 + 1, o1), (s.heap.objs.size + 1, o2)]) (by exact List.Sublist.cons _ (List.Sublist.cons _ (List.Sublist.cons _ (List.Sublist.refl _))))
  refine r_cell (by kernel_rfl) (hcr S₉ (.tail _ (.head _))) ?_ (by kernel_rfl) (by kernel_rfl) (by kernel_rfl)
  walk_at "sp0"
  refine r_lenlist S₉ (isList_base S₉ hr) (by omega) fun t₁₀ s₁₀ S₁₀ => ?_
  refine r_int S₁₀ fun t₁₁ s₁₁ S₁₁ => ?_
  refine r_add S₁₁ fun t₁₂ s₁₂ S₁₂ => ?_
  refine r_mod S₁₂ (by omega) fun t₁₃ s₁₃ S₁₃ => ?_
  rw [show (rest - (placesOf bs bs.length).sum).fmod ((vs.length : Int) + 2) = lackOf bs rest from by rw [hvl]; rfl]
  walk_at "st"
  rename_i s₁₄ S₁₄
  -- put = 0
  walk_at "ec"
  walk_at "as"
  refine r_int S₁₄ fun t₁₅ s₁₅ S₁₅ => ?_
  refine r_storecell S₁₅ hd1' (fun o3 s₁₆ hd3 S₁₆ => ?_) (by kernel_rfl) (by kernel_rfl) (by kernel_rfl)
  -- ahead = ones - lack
  walk_at "ec"
  walk_at "as"
  with_reducible refine wpAny_BinOp ?_
  walk_at "ld"
  walk_at "ld"
  refine r_sub S₁₆ fun t₁₇ s₁₇ S₁₇ => ?_
  walk_at "st"
  rename_i s₁₈ S₁₈
  walk_at "ec"
  have rest_ : ∀ (o4 : Obj) (s' : Shared) (m' : Str → Option Value) (t t' : Tok), o4.data = .cell (some (.int (putOf bs rest) t)) → m' "ahead" = some (.int (aheadOf bs rest) t') → St s s.heap.objs.size m' [(s.heap.objs.size + 1 + 1, o4), (s.heap.objs.size + 1, o2)] s' →
      wpAny (model P0 w) (A.deeper (envOfC (D 23).name (D 23).scope s.heap.objs.size a cd)) (execs ((D 23).body.drop 5) (envOfC (D 23).name (D 23).scope s.heap.objs.size a cd)) (fun f s' => Q (flowVal f) s') (fun _ _ => False) s' := by
    intro o4 s' m' tp ta hd4 ham S
    have hcp : ∀ {s'' : Shared} {m' nw'}, St s s.heap.objs.size m' nw' s'' → (s.heap.objs.size + 1 + 1, o4) ∈ nw' → s''.heap.IsCell (s.heap.objs.size + 1 + 1) (some (.int (putOf bs rest) tp)) := fun S hm => ⟨o4, S.mem hm, hd4⟩
    have hle := ahead_le (rest := rest) hb
    generalize hput : putOf bs rest = put at hle hcp
    generalize hahd : aheadOf bs rest = ahead at hle ham
    refine wpAny_execs_cons ?_
    walk_at "as"
    refine r_int S fun t₂ s₂ S₂ => ?_
    walk_at "st"
    rename_i s₃ S₃
    walk_at "ec"
    refine wpAny_While ?_
    refine codeAny_whileLoop (fun n s' => ∃ p tp m', n = bs.length + 1 - p ∧ p ≤ bs.length ∧ goPlace bs put ahead n p = placeOf bs rest ∧ m' "place" = some (.int (p : Nat) tp) ∧ m' "ahead" = some (.int ahead ta) ∧ St s s.heap.objs.size m' [(s.heap.objs.size + 1 + 1, o4), (s.heap.objs.size + 1, o2)] s') ?_ (bs.length + 1) ⟨0, t₂, _, rfl, by omega, by unfold placeOf; rw [hput, hahd], rfl, by exact ham, S₃⟩
    rintro n s' ⟨p, tq, m', hn, hp, hgo, hpm, ham', S⟩
    refine wpAny_isTrue_Compare1 ?_
    walk_at "call"
    walk_at "bi len"
    refine PyProof.Rows.callWith_builtin1 ?_
    walk_at "more"
    refine r_comp (cl := [("put", s.heap.objs.size + 1 + 1)]) (by kernel_rfl) (by decide +kernel) (by kernel_rfl) (by decide +kernel) ?_
    with_reducible refine Subscript_ ?_
    refine r_cell (by kernel_rfl) (hcr S (.tail _ (.head _))) ?_ (by kernel_rfl) (by kernel_rfl) (by kernel_rfl)
    refine r_slicelist (s₀ := s) (L := s.heap.objs.size) ?_
    refine evalPart_none_step ?_
    refine evalPart_some_step ?_
    refine r_local S (v := .int (p : Nat) tq) (by exact hpm) ?_ (by kernel_rfl) (by kernel_rfl) (by kernel_rfl) (by kernel_rfl)
    refine ⟨_, _, vs.toArray, vs.take p, _, _, .none, .int _ _, S, isList_base S hr, by rw [List.size_toArray]; omega, by rw [slicePick_upto'], fun as s₅ S₅ => ?_⟩
    have hvt : ∀ {i : Nat} {v : Value}, (vs.take p)[i]? = some v → ∃ n t, (bs.take p)[i]? = some n ∧ v = .int n t := by
      intro i v hi
      have hip : i < p := by
        rcases Nat.lt_or_ge i p with q | q
        · exact q
        · rw [List.getElem?_eq_none (by have := List.length_take_le p vs; omega)] at hi; cases hi
      rw [List.getElem?_take_of_lt hip] at hi
      rw [List.getElem?_take_of_lt hip]
      exact ints_at hv hi
    have htl : (vs.take p).length = p := by rw [List.length_take]; omega
    have htb : (bs.take p).length = p := by rw [List.length_take]; omega
    refine ⟨_, _, fun j ys m' nw' => nw' = [] ∧ IntsAre ys (((bs.take p).take j).filter (· != put)), src_list hh (lO_list (S₅.mem (.head _))), by rw [List.size_toArray, htl, sizeLine_eq]; omega, ⟨rfl, .nil⟩, ?_, ?_, ?_⟩
    · rintro j ys m' nw' ⟨_, hc⟩
      have h1 := ints_len hc
      have h2 := List.length_filter_le (· != put) ((bs.take p).take j)
      have h3 : ((bs.take p).take j).length ≤ j := List.length_take_le ..
      omega
    · rintro C Dd j k v ys m' nw' I oo s' hj hv' ⟨rfl, hc⟩ S'
      have hv'' : (vs.take p)[j]? = some v := by simpa using hv'
      obtain ⟨b, tb, hbj, rfl⟩ := hvt hv''
      with_reducible refine PyProof.Rows.assign_Name ?_
      walk_at "st"
      rename_i s₆ S₆
      refine wpAny_tests_one ?_
      refine wpAny_isTrue_Compare1 ?_
      walk_at "ld"
      refine r_cell (by kernel_rfl) ((hcp S₅ (.tail _ (.head _))).keeps S₆.fr.keep) ?_ (by kernel_rfl) (by kernel_rfl) (by kernel_rfl)
      refine ne_int ?_
      refine wpAny_truthy_bool ?_
      have hf := filter_take_succ (p := (· != put)) hbj
      by_cases q : (b != put) = true
      · rw [if_pos q] at hf ⊢
        walk_at "ld"
        exact ⟨_, _, S₆, rfl, by rw [hf]; exact ints_app hc (.cons _ _ .nil)⟩
      · rw [if_neg q] at hf ⊢
        exact ⟨_, _, S₆, rfl, by rw [hf, List.append_nil]; exact hc⟩
    rintro Dd k ys m'' nw' s₇ ⟨rfl, hc⟩ Md
    have S₇ := S₅.join Md
    walk_at "sp0"
    rw [show (vs.take p).toArray.size = (bs.take p).length from by rw [List.size_toArray, htl, htb], List.take_length] at hc
    have hyl := ints_len hc
    have hfl := List.length_filter_le (· != put) (bs.take p)
    refine r_lenlist S₇ (lO_list (S₇.mem (.head _))) (by omega) fun t₈ s₈ S₈ => ?_
    rw [show (ys.length : Int) = behind bs put p from by rw [hyl]; rfl]
    refine r_local S₈ (v := .int ahead ta) (by exact ham') ?_ (by kernel_rfl) (by kernel_rfl) (by kernel_rfl) (by kernel_rfl)
    refine PyProof.Rows.lt_int ?_
    refine wpAny_truthy_bool ?_
    have S₈ := S₈.weaken (news' := [(s.heap.objs.size + 1 + 1, o4), (s.heap.objs.size + 1, o2)]) (by exact List.Sublist.cons _ (List.Sublist.cons _ (List.Sublist.refl _)))
    have hn1 : n = (n - 1) + 1 := by omega
    by_cases q : behind bs put p < ahead
    · rw [decide_eq_true q, if_pos rfl]
      have hpl : p < bs.length := by
        rcases Nat.lt_or_ge p bs.length with z | z
        · exact z
        · have : p = bs.length := by omega
          subst this; omega
      refine wpAny_execs_cons ?_
      refine wpAny_AugAssign_Name ?_
      refine wpAny_loadName_local (by kernel_rfl) (by kernel_rfl) S₈.fr.ns hpm ?_
      refine r_int S₈ fun t₉ s₉ S₉ => ?_
      refine r_iadd S₉ fun t₁₀ s₁₀ S₁₀ => ?_
      walk_at "st"
      rename_i s₁₁ S₁₁
      refine wpAny_execs_nil ?_
      refine ⟨n - 1, by omega, p + 1, t₁₀, _, by omega, by omega, ?_, rfl, by exact ham', S₁₁⟩
      rw [hn1] at hgo
      unfold goPlace at hgo
      rw [if_pos q] at hgo
      exact hgo
    · rw [decide_eq_false q, if_neg (by decide)]
      refine wpAny_execs_nil ?_
      have hres : p = placeOf bs rest := by
        rw [hn1] at hgo
        unfold goPlace at hgo
        rw [if_neg q] at hgo
        exact hgo
      refine wpAny_execs_cons ?_
      walk_at "ret"
      with_reducible refine Tuple_ ?_
      walk_at "more"
      refine r_local S₈ (v := .int (p : Nat) tq) (by exact hpm) ?_ (by kernel_rfl) (by kernel_rfl) (by kernel_rfl) (by kernel_rfl)
      walk_at "more"
      refine r_cell (by kernel_rfl) (hcp S₈ (.head _)) ?_ (by kernel_rfl) (by kernel_rfl) (by kernel_rfl)
      walk_at "sp0"
      refine r_newtuple S₈ (by simp) fun Dt s₁₂ S₁₂ => ?_
      rw [hres, ← hput] at S₁₂
      exact h Dt _ _ _ (S₁₂.made.weaken (by exact List.Sublist.cons_cons _ (List.nil_sublist _)))
  walk_at "if"
  walk_at "ld"
  walk_at "ld"
  refine PyProof.Rows.gt_int ?_
  refine wpAny_truthy_bool ?_
  by_cases q : onesOf bs < lackOf bs rest
  · rw [decide_eq_true q, if_pos rfl]
    refine wpAny_execs_cons ?_
    walk_at "as"
    refine r_int S₁₈ fun t₁₉ s₁₉ S₁₉ => ?_
    refine r_storecell S₁₉ hd3 (fun o4 s₂₀ hd4 S₂₀ => ?_) (by kernel_rfl) (by kernel_rfl) (by kernel_rfl)
    walk_at "ec"
    walk_at "as"
    with_reducible refine wpAny_BinOp ?_
    with_reducible refine wpAny_BinOp ?_
    walk_at "ld"
    walk_at "ld"
    refine r_sub S₂₀ fun t₂₁ s₂₁ S₂₁ => ?_
    refine r_int S₂₁ fun t₂₂ s₂₂ S₂₂ => ?_
    refine r_sub S₂₂ fun t₂₃ s₂₃ S₂₃ => ?_
    walk_at "st"
    rename_i s₂₄ S₂₄
    refine wpAny_execs_nil ?_
    refine rest_ o4 _ _ t₁₉ t₂₃ (by unfold putOf; rw [if_pos q]; exact hd4) (by unfold aheadOf; rw [if_pos q]; exact rfl) S₂₄
  · rw [decide_eq_false q, if_neg (by decide)]
    refine wpAny_execs_nil ?_
    refine rest_ o3 _ _ t₁₅ t₁₇ (by unfold putOf; rw [if_neg q]; exact hd3) (by unfold aheadOf; rw [if_neg q]; exact rfl) S₁₈
end
end partMine18
section partMine19
set_option autoImplicit false
open PySem.Builtin PySem.Builtin.Str in
def find4 (x y : Str) (i j : Int) : Int := match occurrences x y (fromIndex x.length i) (min (fromIndex x.length j) x.length) 1 with | k :: _ => (k : Int) | [] => -1
open PySem.Builtin PySem.Builtin.Str in
theorem gives_find4 (x y : Str) (i j : Int) (t u v z : Tok) : Gives («str.find» ⟨[.str x t, .str y u, .int i v, .int j z], []⟩) (.int (find4 x y i j)) := by
  show Gives (match occurrences x y (fromIndex x.length i) (min (fromIndex x.length j) x.length) 1 with | k :: _ => retInt k | [] => (do rule "str.find.not-found"; retInt (-1))) _
  unfold find4
  cases occurrences x y (fromIndex x.length i) (min (fromIndex x.length j) x.length) 1 with
  | nil => exact .rule (.of_eq rfl)
  | cons k _ => exact .of_eq rfl
section
variable {w : World} {A : Around} {E : Value → Shared → Prop} {s₀ s : Shared} {L : Addr} {m : Str → Option Value} {news : Nw} {env : Env} {mg mb : Str → Option Value}
theorem r_find4 {x y : Str} {i j : Int} {t u v z : Tok} {Q : Value → Shared → Prop} (S : St s₀ L m news s) (h : ∀ t s', St s₀ L m news s' → Q (.int (find4 x y i j) t) s') :
    wpAny (model P0 w) A (call (.builtin "str.find") [.str x t, .str y u, .int i v, .int j z]) Q E s :=
  call_gives F.slot_str_find (typeIs_str _ _ _) F.entry_str_find (F.args_str_find_4 _ _ _ _) (gives_find4 x y i j t u v z) (h _ _ S.tok)
theorem r_split {x y : Str} {t u : Tok} {Q : Value → Shared → Prop} (S : St s₀ L m news s) (hy : (y.length == 0) = false) (hx : x.length ≤ 10000)
    (h : ∀ a l s', l.map (·.1) = Txt.split x y → St s₀ L m ((a, lO (strValues l) 0) :: news) s' → Q (.ref a) s') : wpAny (model P0 w) A (call (.builtin "str.split") [.str x t, .str y u]) Q E s :=
  splitN1 S.fr S.nw hy (fun l h' k hl F' N' => h _ l _ hl (S.new (d := s.drawn) (k := k) F' (fun p hp => N' p (.tail _ hp)) (N' _ (.head _)).1 (Nat.le_refl _))) (by rw [sizeLine_eq]; omega)
theorem r_itemneg {value slice : Expr} {l : Addr} {vs : List Value} {k : Int} {u : Tok} {x : Value} {Q : Value → Shared → Prop} (hl : s.heap.IsList l vs.toArray) (h0 : k < 0) (h1 : 0 ≤ k + vs.length) (h2 : -1000000 < k) (hx : vs[(k + vs.length).toNat]? = some x) (h : Q x s)
    (hs : subscripted slice false (.ref l) (.int k u) = operate [.ref l, .int k u] (getItem (.ref l) (.int k u)) := by with_unfolding_all rfl) :
    wpAny (model P0 w) A (subscriptTail value slice (.ref l) (.int k u)) Q E s :=
  tail_any hl.typeIs slot_list_getitem.lookup (wpAny_getItem_list_neg hl h0 (by simp; omega) (by omega) (by simpa using hx) h) hs
theorem r_delitem {D : Addr} {vs : List Value} {n : Nat} {k : Int} {u : Tok} {j : Nat} {Q : Unit → Shared → Prop} (S : St s₀ L m ((D, lO vs n) :: news) s) (hfit : Builtin.List.listFitsIndex k = true) (hk : seqIndex? k vs.length = some j) (hz : vs.length ≤ 10000)
    (h : ∀ s', St s₀ L m ((D, lO (vs.eraseIdx j) (n + 1)) :: news) s' → Q () s') : wpAny (model P0 w) A (delItem (.ref D) (.int k u)) Q E s :=
  delItem_at (S.mem (.head _)) hfit (by simpa using hk) (fun h' hs ho => h _ (S.upd (d := s.drawn) (k := s.toks) 0 rfl hs ho)) (by rw [sizeLine_eq]; simp; omega)
end
/-- the loop of the match -/
def ellLoop (got : Str) (e : Int) : List Str → Int → Bool
  | [], _ => true
  | x :: ws, p => if find4 got x p e < 0 then false else ellLoop got e ws (find4 got x p e + x.length)
def ellHead (got x : Str) (ws : List Str) : Option (Int × List Str) := if x.length = 0 then some (0, x :: ws) else if Txt.startswith got x = true then some (x.length, ws) else none
def ellLast (got : Str) (ws : List Str) : Option (Int × List Str) :=
  let x := ws.getLastD (Str.ofString "")
  if x.length = 0 then some (got.length, ws) else if Txt.endswith got x = true then some (got.length - x.length, ws.dropLast) else none
def ellipsisOf (got x : Str) (ws : List Str) : Bool := match ellHead got x ws with
  | none => false
  | some (p, ws') => match ellLast got ws' with
    | none => false
    | some (e, ws'') => if e < p then false else ellLoop got e ws'' p
end partMine19
section partMine20
set_option autoImplicit false
section
variable {w : World} {A : Around} {E : Value → Shared → Prop} {s₀ s : Shared} {L : Addr} {m : Str → Option Value} {news : Nw} {env : Env} {mg mb : Str → Option Value}
theorem r_unpack {t : Addr} {items : List Value} {n : Nat} {Q : List Value → Shared → Prop} (S : St s₀ L m news s) (hh : A.handled = none) (ht : s.heap.get? t = some (tO items)) (hn : n = items.length) (h : ∀ s', St s₀ L m news s' → Q items s') :
    wpAny (model P0 w) A (unpackItems (.ref t) n none) Q E s := by
  subst hn
  have := unpackItems_tuple (Q := Q) (E := E) (prog := P0) (w := w) hh (t := t) (items := items.toArray) ⟨_, ht, rfl, _, rfl⟩ (fun h' he => h _ (S.step ⟨fun b o e => he b o (Nat.ne_of_lt (Heap.lt_size e)) e, rfl, rfl⟩))
  simpa using this
theorem strValues_list (l : List (Str × Tok)) : (strValues l).length = l.length := by simp [strValues]
set_option maxHeartbeats 2000000 in
theorem c_ellipsis {a : Addr} {want got x0 : Str} {ws : List Str} {t u : Tok} {Q : Value → Shared → Prop} (R : Room A 1) (G : Gl w mg mb s.heap) (F : FnAt s.heap (D 7) a)
    (hc : Txt.contains want "..." = true) (hs : Txt.split want "..." = x0 :: ws) (hl : ws ≠ []) (hz : ws.length ≤ 100) (hwl : want.length ≤ 1000) (hgl : got.length ≤ 1000) (hxl : ∀ x ∈ x0 :: ws, x.length ≤ 1000)
    (h : ∀ s', Ext s s' → Q (.bool (ellipsisOf got x0 ws)) s') : wpAny (model P0 w) A (call (.ref a) [.str want t, .str got u]) Q E s := by
  refine enter (binds := [("want", .str want t), ("got", .str got u)]) R F G.nolimit (fun _ _ _ => rfl) (by kernel_rfl) (by decide +kernel) (fun cd s₁ cells S X => ?_) (cells_nodup _)
  have hh := (R.deeper (env := envOfC (D 7).name (D 7).scope s.heap.objs.size a cd)).handled
  obtain ⟨tm, htm⟩ := G.dots
  refine wpAny_execs_cons ?_
  walk_at "if"
  walk_at "gl"
  walk_at "ld"
  refine SB.notContains ?_
  refine wpAny_truthy_bool ?_
  rw [hc]
  rw [if_neg (by decide)]
  refine wpAny_execs_nil ?_
  walk_at "ec"
  walk_at "as"
  refine MethodCall_ ?_
  walk_at "ld"
  refine GM.split ?_
  refine callWith_method1 ?_
  walk_at "more"
  walk_at "gl"
  walk_at "sp0"
  refine r_split S (by decide) (by omega) fun aw l s₂ hlt S₂ => ?_
  rw [hs] at hlt
  walk_at "st"
  rename_i s₃ S₃
  have hll : l.length = ws.length + 1 := by have := congrArg List.length hlt; simpa using this
  have hwp : 1 ≤ ws.length := by cases ws with | nil => exact absurd rfl hl | cons _ _ => simp
  have S₃ := S₃.weaken (news' := [(aw, lO (strValues l) 0)]) (by exact List.Sublist.cons_cons _ (List.nil_sublist _))
  walk_at "ec"
  refine wpAny_Assert_holds ?_
  refine wpAny_isTrue_Compare1 ?_
  walk_at "call"
  walk_at "bi len"
  refine PyProof.Rows.callWith_builtin1 ?_
  walk_at "more"
  walk_at "ld"
  walk_at "sp0"
  refine r_lenlist S₃ (lO_list (S₃.mem (.head _))) (by rw [strValues_list]; omega) fun t₄ s₄ S₄ => ?_
  refine r_int S₄ fun t₅ s₅ S₅ => ?_
  refine PyProof.Rows.ge_int ?_
  refine wpAny_truthy_bool ?_
  refine ⟨by rw [strValues_list]; exact decide_eq_true (by omega), ?_⟩
  walk_at "ec"
  refine Assign_Tuple_swapped (names := ["startpos", "endpos"]) ?_ (by kernel_rfl) (by kernel_rfl)
  with_reducible refine Tuple_ ?_
  walk_at "ci"
  rename_i t₆ s₆ S₆
  walk_at "more"
  walk_at "call"
  walk_at "bi len"
  refine PyProof.Rows.callWith_builtin1 ?_
  walk_at "more"
  walk_at "ld"
  walk_at "sp0"
  refine r_lenstr S₆ (by omega) fun t₇ s₇ S₇ => ?_
  walk_at "sp0"
  refine r_newtuple S₇ (by simp) fun Dt s₈ S₈ => ?_
  refine r_unpack S₈ hh (S₈.mem (.head _)) rfl fun s₉ S₉ => ?_
  have S₉ := S₉.drop
  refine assignInOrder_cons ?_
  refine bindName_ ?_
  walk_at "st"
  rename_i s₁₀ S₁₀
  refine assignInOrder_cons ?_
  refine bindName_ ?_
  walk_at "st"
  rename_i s₁₁ S₁₁
  refine assignInOrder_nil ?_
  walk_at "ec"
  walk_at "as"
  with_reducible refine Subscript_ ?_
  walk_at "ld"
  refine r_int S₁₁ fun t₁₂ s₁₂ S₁₂ => ?_
  obtain ⟨⟨x0', tx0⟩, l', rfl⟩ : ∃ p l', l = p :: l' := by
    cases l with
    | nil => simp at hll
    | cons p l' => exact ⟨p, l', rfl⟩
  rw [List.map_cons] at hlt
  obtain ⟨rfl, hlt'⟩ := List.cons.inj hlt
  have hlw : l'.length = ws.length := by rw [← hlt', List.length_map]
  refine r_itemlist (lO_list (S₁₂.mem (.head _))) (by decide) (by decide) (x := .str x0' tx0) rfl ?_
  walk_at "st"
  rename_i s₁₃ S₁₃
  have k2 : ∀ (e p : Int) (te tp : Tok) (l2 : List (Str × Tok)) (n2 : Nat) (s' : Shared) (m' : Str → Option Value), St s s.heap.objs.size m' [(aw, lO (strValues l2) n2)] s' → l2.length ≤ 200 → (∀ x ∈ l2, x.1.length ≤ 1000) →
      m' "got" = some (.str got u) → m' "ws" = some (.ref aw) → m' "startpos" = some (.int p tp) → m' "endpos" = some (.int e te) →
      ellipsisOf got x0' ws = (if e < p then false else ellLoop got e (l2.map (·.1)) p) →
      wpAny (model P0 w) (A.deeper (envOfC (D 7).name (D 7).scope s.heap.objs.size a cd)) (execs ((D 7).body.drop 8) (envOfC (D 7).name (D 7).scope s.heap.objs.size a cd)) (fun f s' => Q (flowVal f) s') (fun _ _ => False) s' := by
    intro e p te tp l2 n2 s' m' S h200 hx2 hgot hws hsp hep hell
    refine wpAny_execs_cons ?_
    walk_at "if"
    refine r_local S (v := .int p tp) (by exact hsp) ?_ (by kernel_rfl) (by kernel_rfl) (by kernel_rfl) (by kernel_rfl)
    refine r_local S (v := .int e te) (by exact hep) ?_ (by kernel_rfl) (by kernel_rfl) (by kernel_rfl) (by kernel_rfl)
    refine PyProof.Rows.gt_int ?_
    refine wpAny_truthy_bool ?_
    by_cases q : e < p
    · rw [decide_eq_true q, if_pos rfl]
      refine wpAny_execs_cons ?_
      walk_at "ret"
      refine wpAny_Constant_bool ?_
      have := h _ S.ext
      rw [hell, if_pos q] at this
      exact this
    · rw [decide_eq_false q, if_neg (by decide)]
      rw [if_neg q] at hell
      refine wpAny_execs_nil ?_
      walk_at "ec"
      with_reducible refine r_for S ?_ ?hs1 ?ht1
      case hs1 => (intro _; rfl)
      case ht1 => (intro _ _; rfl)
      refine r_local S (v := .ref aw) (by exact hws) ?_ (by kernel_rfl) (by kernel_rfl) (by kernel_rfl) (by kernel_rfl)
      refine ⟨_, _, _, _, fun j m' nw' => nw' = [(aw, lO (strValues l2) n2)] ∧ m' "got" = some (.str got u) ∧ m' "endpos" = some (.int e te) ∧ ∃ p' tp', m' "startpos" = some (.int p' tp') ∧ ellLoop got e ((l2.map (·.1)).drop j) p' = ellipsisOf got x0' ws, src_list hh (lO_list (S.mem (.head _))), S, ⟨rfl, hgot, hep, p, tp, hsp, hell.symm⟩, ?_, ?_, ?_⟩
      · rintro j m' nw' ⟨rfl, _⟩ b hb o ho
        cases hb
        have := S.mem (.head _)
        rw [ho] at this; cases this
        exact .inr (.head _)
      · rintro I j v o m' nw' s' hj hP ⟨rfl, hgot, hep, p', tp', hsp, hell⟩ S'
        obtain ⟨⟨x, tx⟩, hxj, rfl⟩ : ∃ x : Str × Tok, l2[j]? = some x ∧ v = .str x.1 x.2 := by
          have hP' : (strValues l2)[j]? = some v := by simpa using hP
          unfold strValues at hP'
          rw [List.getElem?_map] at hP'
          cases hx : l2[j]? with
          | none => rw [hx] at hP'; cases hP'
          | some x => rw [hx] at hP'; exact ⟨x, rfl, by simpa using hP'.symm⟩
        have hxl2 : x.length ≤ 1000 := hx2 _ (List.mem_of_getElem? hxj)
        have hdrop : (l2.map (·.1)).drop j = x :: (l2.map (·.1)).drop (j + 1) := by
          have hj2 : j < (l2.map (·.1)).length := by
            rcases Nat.lt_or_ge j l2.length with z | z
            · simpa using z
            · rw [List.getElem?_eq_none z] at hxj; cases hxj
          rw [List.drop_eq_getElem_cons hj2]
          congr 1
          have := List.getElem?_eq_getElem hj2
          rw [List.getElem?_map, hxj] at this
          exact (Option.some.inj this).symm
        rw [hdrop] at hell
        unfold ellLoop at hell
        with_reducible refine PyProof.Rows.assign_Name ?_
        walk_at "st"
        rename_i s₄ S₄
        refine wpAny_execs_cons ?_
        walk_at "as"
        refine MethodCall_ ?_
        refine r_local S₄ (v := .str got u) (by exact hgot) ?_ (by kernel_rfl) (by kernel_rfl) (by kernel_rfl) (by kernel_rfl)
        refine GM.find ?_
        refine callWith_method1 ?_
        walk_at "more"
        walk_at "ld"
        walk_at "more"
        refine r_local S₄ (v := .int p' tp') (by exact hsp) ?_ (by kernel_rfl) (by kernel_rfl) (by kernel_rfl) (by kernel_rfl)
        walk_at "more"
        refine r_local S₄ (v := .int e te) (by exact hep) ?_ (by kernel_rfl) (by kernel_rfl) (by kernel_rfl) (by kernel_rfl)
        walk_at "sp0"
        refine r_find4 S₄ fun t₅ s₅ S₅ => ?_
        walk_at "st"
        rename_i s₆ S₆
        walk_at "ec"
        walk_at "if"
        walk_at "ld"
        refine r_int S₆ fun t₇ s₇ S₇ => ?_
        refine PyProof.Rows.lt_int ?_
        refine wpAny_truthy_bool ?_
        by_cases q3 : find4 got x p' e < 0
        · rw [if_pos q3] at hell
          rw [decide_eq_true q3, if_pos rfl]
          refine wpAny_execs_cons ?_
          walk_at "ret"
          refine wpAny_Constant_bool ?_
          have := h _ S₇.ext
          rw [← hell] at this
          exact this
        · rw [if_neg q3] at hell
          rw [decide_eq_false q3, if_neg (by decide)]
          refine wpAny_execs_nil ?_
          walk_at "ec"
          refine wpAny_AugAssign_Name ?_
          refine wpAny_loadName_local (v := .int (find4 got x p' e) t₅) (by kernel_rfl) (by kernel_rfl) S₇.fr.ns rfl ?_
          walk_at "call"
          walk_at "bi len"
          refine PyProof.Rows.callWith_builtin1 ?_
          walk_at "more"
          walk_at "ld"
          walk_at "sp0"
          refine r_lenstr S₇ (Nat.le_trans hxl2 (by decide)) fun t₈ s₈ S₈ => ?_
          refine r_iadd S₈ fun t₉ s₉ S₉ => ?_
          walk_at "st"
          rename_i s₁₀ S₁₀
          refine wpAny_execs_nil ?_
          exact ⟨_, _, S₁₀, rfl, by exact hgot, by exact hep, _, t₉, rfl, hell⟩
      · rintro m' nw' s' ⟨rfl, hgot, hep, p', tp', hsp, hell⟩ S'
        refine wpAny_execs_cons ?_
        walk_at "ret"
        refine wpAny_Constant_bool ?_
        have := h _ S'.ext
        rw [← hell, List.drop_of_length_le (by simp [strValues])] at this
        exact this
  have k1 : ∀ (p : Int) (tp : Tok) (l1 : List (Str × Tok)) (n1 : Nat) (s' : Shared) (m' : Str → Option Value), St s s.heap.objs.size m' [(aw, lO (strValues l1) n1)] s' → l1.length ≤ 200 → l1 ≠ [] → (∀ x ∈ l1, x.1.length ≤ 1000) →
      m' "got" = some (.str got u) → m' "ws" = some (.ref aw) → m' "startpos" = some (.int p tp) → m' "endpos" = some (.int got.length t₇) →
      ellHead got x0' ws = some (p, l1.map (·.1)) →
      wpAny (model P0 w) (A.deeper (envOfC (D 7).name (D 7).scope s.heap.objs.size a cd)) (execs ((D 7).body.drop 6) (envOfC (D 7).name (D 7).scope s.heap.objs.size a cd)) (fun f s' => Q (flowVal f) s') (fun _ _ => False) s' := by
    intro p tp l1 n1 s' m' S h200 hne hx1 hgot hws hsp hep hhead
    have hpos : 0 < l1.length := List.length_pos_iff.mpr hne
    obtain ⟨⟨x, tx⟩, hxe⟩ : ∃ x, l1[l1.length - 1]? = some x := ⟨l1[l1.length - 1], by simp⟩
    have hxl1 : x.length ≤ 1000 := hx1 _ (List.mem_of_getElem? hxe)
    have hlast : (l1.map (·.1)).getLastD (Str.ofString "") = x := by
      rw [List.getLastD_eq_getLast?, List.getLast?_eq_getElem?, List.length_map, List.getElem?_map, hxe]; rfl
    refine wpAny_execs_cons ?_
    walk_at "as"
    with_reducible refine Subscript_ ?_
    refine r_local S (v := .ref aw) (by exact hws) ?_ (by kernel_rfl) (by kernel_rfl) (by kernel_rfl) (by kernel_rfl)
    with_reducible refine UnaryOp_ ?_
    refine r_int S fun t₂ s₂ S₂ => ?_
    refine r_neg S₂ fun t₃ s₃ S₃ => ?_
    refine r_itemneg (lO_list (S₃.mem (.head _))) (by decide) (by rw [strValues_list]; omega) (by decide) (x := .str x tx) (by rw [strValues_list, show ((-1 : Int) + l1.length).toNat = l1.length - 1 from by omega]; unfold strValues; rw [List.getElem?_map, hxe]; rfl) ?_
    walk_at "st"
    rename_i s₄ S₄
    walk_at "ec"
    refine wpAny_If ?_
    refine isTrue_plain ?_
    walk_at "ld"
    refine r_truthystr S₄ (by omega) fun s₅ S₅ => ?_
    by_cases q : x.length = 0
    · rw [if_neg (by simp [q])]
      refine wpAny_execs_nil ?_
      refine k2 got.length p _ tp l1 n1 _ _ S₅ h200 hx1 (by exact hgot) (by exact hws) (by exact hsp) (by exact hep) ?_
      unfold ellipsisOf
      rw [hhead]
      unfold ellLast
      simp only [hlast, q, if_true]
    · rw [if_pos (by simpa using q)]
      refine wpAny_execs_cons ?_
      refine wpAny_If ?_
      refine isTrue_plain ?_
      refine MethodCall_ ?_
      refine r_local S₅ (v := .str got u) (by exact hgot) ?_ (by kernel_rfl) (by kernel_rfl) (by kernel_rfl) (by kernel_rfl)
      refine GM.endswith ?_
      refine callWith_method1 ?_
      walk_at "more"
      walk_at "ld"
      walk_at "sp0"
      refine SC.endswith ?_
      refine wpAny_truthy_bool ?_
      by_cases q2 : Txt.endswith got x = true
      · rw [if_pos q2]
        refine wpAny_execs_cons ?_
        refine wpAny_AugAssign_Name ?_
        refine wpAny_loadName_local (v := .int got.length t₇) (by kernel_rfl) (by kernel_rfl) S₅.fr.ns (by exact hep) ?_
        walk_at "call"
        walk_at "bi len"
        refine PyProof.Rows.callWith_builtin1 ?_
        walk_at "more"
        walk_at "ld"
        walk_at "sp0"
        refine r_lenstr S₅ (by omega) fun t₆ s₆ S₆ => ?_
        refine r_isub S₆ fun t₇' s₇ S₇ => ?_
        walk_at "st"
        rename_i s₈ S₈
        walk_at "ec"
        refine wpAny_Delete ?_
        refine wpAny_deleteEach_cons ?_
        refine wpAny_delete_Subscript ?_
        refine r_local S₈ (v := .ref aw) (by exact hws) ?_ (by kernel_rfl) (by kernel_rfl) (by kernel_rfl) (by kernel_rfl)
        with_reducible refine UnaryOp_ ?_
        refine r_int S₈ fun t₉ s₉ S₉ => ?_
        refine r_neg S₉ fun t₁₀ s₁₀ S₁₀ => ?_
        have hdl : (strValues l1).eraseIdx (l1.length - 1) = strValues l1.dropLast := by
          unfold strValues
          rw [show l1.length - 1 = (l1.map fun p => Value.str p.1 p.2).length - 1 from by rw [List.length_map], List.eraseIdx_length_sub_one, List.map_dropLast]
        refine r_delitem (j := l1.length - 1) S₁₀ (by decide) (by rw [strValues_list]; exact seqIndex?_neg_one hpos) (by rw [strValues_list]; omega) fun s₁₁ S₁₁ => ?_
        rw [hdl] at S₁₁
        refine wpAny_deleteEach_nil ?_
        refine wpAny_execs_nil ?_
        refine wpAny_execs_nil ?_
        refine k2 (got.length - x.length) p _ tp l1.dropLast _ _ _ S₁₁ (by simp; omega) (fun y hy => hx1 y ((List.dropLast_sublist l1).mem hy)) (by exact hgot) (by exact hws) (by exact hsp) (by exact rfl) ?_
        unfold ellipsisOf
        rw [hhead]
        unfold ellLast
        simp only [hlast, q, if_false, q2, if_true, List.map_dropLast]
      · rw [if_neg q2]
        refine wpAny_execs_cons ?_
        walk_at "ret"
        refine wpAny_Constant_bool ?_
        have := h _ S₅.ext
        rw [show ellipsisOf got x0' ws = false from by
          unfold ellipsisOf
          rw [hhead]
          unfold ellLast
          simp only [hlast]
          rw [if_neg q, if_neg q2]] at this
        exact this
  have hx0 := hxl x0' (.head _)
  walk_at "ec"
  refine wpAny_If ?_
  refine isTrue_plain ?_
  walk_at "ld"
  refine r_truthystr S₁₃ (by omega) fun s₁₄ S₁₄ => ?_
  have hl'l : l'.length ≤ 200 := by omega
  by_cases q : x0'.length = 0
  · rw [if_neg (by simp [q])]
    refine wpAny_execs_nil ?_
    exact k1 0 _ _ _ _ _ S₁₄ (by simp; omega) nofun (fun x hx => hxl x.1 (by rw [← hlt', ← List.map_cons (f := Prod.fst)]; exact List.mem_map.mpr ⟨x, hx, rfl⟩)) rfl rfl rfl rfl (by unfold ellHead; rw [if_pos q, ← hlt']; rfl)
  · rw [if_pos (by simpa using q)]
    refine wpAny_execs_cons ?_
    refine wpAny_If ?_
    refine isTrue_plain ?_
    refine MethodCall_ ?_
    walk_at "ld"
    refine GM.startswith ?_
    refine callWith_method1 ?_
    walk_at "more"
    walk_at "ld"
    walk_at "sp0"
    refine SC.startswith ?_
    refine wpAny_truthy_bool ?_
    by_cases q2 : Txt.startswith got x0' = true
    · rw [if_pos q2]
      refine wpAny_execs_cons ?_
      walk_at "as"
      walk_at "call"
      walk_at "bi len"
      refine PyProof.Rows.callWith_builtin1 ?_
      walk_at "more"
      walk_at "ld"
      walk_at "sp0"
      refine r_lenstr S₁₄ (by omega) fun t₁₅ s₁₅ S₁₅ => ?_
      walk_at "st"
      rename_i s₁₆ S₁₆
      walk_at "ec"
      refine wpAny_Delete ?_
      refine wpAny_deleteEach_cons ?_
      refine wpAny_delete_Subscript ?_
      walk_at "ld"
      refine r_int S₁₆ fun t₁₇ s₁₇ S₁₇ => ?_
      refine r_delitem (j := 0) S₁₇ (by decide) (by simp [seqIndex?, strValues]) (by rw [strValues_list]; omega) fun s₁₈ S₁₈ => ?_
      refine wpAny_deleteEach_nil ?_
      refine wpAny_execs_nil ?_
      refine wpAny_execs_nil ?_
      exact k1 x0'.length _ l' _ _ _ S₁₈ hl'l (by intro e; rw [e, List.length_nil] at hlw; omega) (fun x hx => hxl x.1 (by rw [← hlt']; exact .tail _ (List.mem_map.mpr ⟨x, hx, rfl⟩))) rfl rfl rfl rfl (by unfold ellHead; rw [if_neg q, if_pos q2, ← hlt'])
    · rw [if_neg q2]
      refine wpAny_execs_cons ?_
      walk_at "ret"
      refine wpAny_Constant_bool ?_
      have := h _ S₁₄.ext
      rw [show ellipsisOf got x0' ws = false from by unfold ellipsisOf ellHead; rw [if_neg q, if_neg q2]] at this
      exact this
end
end partMine20
section partMine21
set_option autoImplicit false
section
variable {w : World} {A : Around} {E : Value → Shared → Prop} {s₀ s : Shared} {L : Addr} {m : Str → Option Value} {news : Nw} {env : Env} {mg mb : Str → Option Value}
theorem r_storecell_i {x : Str} {v : Value} {c : Addr} {o : Obj} {v₀ : Option Value} {Q : Unit → Shared → Prop} (i : Nat) (S : St s₀ L m news s) (hi : news[i]? = some (c, o)) (ho : o.data = .cell v₀)
    (h : ∀ o' s', o'.data = .cell (some v) → St s₀ L m (news.set i (c, o')) s' → Q () s')
    (hk : env.scope.kind = .function) (hl : env.kindOf x = some .cell) (hc : env.cells.lookup x = some c) :
    wpAny (model P0 w) A (storeName env x v) Q E s :=
  wpAny_storeName_cell hk hl hc ⟨o, S.at i hi, ho⟩ fun h' hi' hs => let ⟨o', e1, e2⟩ := hi'; h o' _ e2 (S.upd (d := s.drawn) (k := s.toks) i hi hs e1)
theorem r_slice3 {ops : Addr → List Value} {value : Expr} {lower upper : Option Expr} {st : Expr} {p : Pos} {l : Addr} {Q : Value → Shared → Prop}
    (h : wpAny (model P0 w) A (evalPart lower env) (fun vl s₁ => wpAny (model P0 w) A (evalPart upper env) (fun vu s₂ => wpAny (model P0 w) A (eval st env) (fun vk s₃ =>
      ∃ lo hi k vs m news, IsPart vl lo ∧ IsPart vu hi ∧ IsPart vk k ∧ k ≠ some 0 ∧ St s₀ L m news s₃ ∧ s₃.heap.IsList l vs ∧ vs.size ≤ 10000 ∧ ∀ a s', St s₀ L m ((a, lO (slicePick vs lo hi k).toList 0) :: news) s' → Q (.ref a) s') E s₂) E s₁) E s)
    (hs : ∀ x, subscripted (.Slice lower upper (some st) p) false (.ref l) (.ref x) = operate (ops x) (getItem (.ref l) (.ref x)) := by intro _; with_unfolding_all rfl)
    (ht : ∀ r, letTemporaryGo value (.ref l) r = pure () := by intro _; with_unfolding_all rfl) :
    wpAny (model P0 w) A (eval (.Slice lower upper (some st) p) env) (fun i s₂ => wpAny (model P0 w) A (subscriptTail value (.Slice lower upper (some st) p) (.ref l) i) Q E s₂) E s := by
  refine wpAny_Slice (wpAny_mono h (fun vl s₁ h₁ => wpAny_mono h₁ (fun vu s₂ h₂ => ?_) fun _ _ e => e) fun _ _ e => e)
  refine evalPart_some_step (wpAny_mono h₂ (fun vk s₃ h₃ => ?_) fun _ _ e => e)
  obtain ⟨lo, hi, k, vs, m, news, pl, pu, pk, hk, S, hl, hz, fin⟩ := h₃
  refine slice_list3 S.fr S.nw hl pl pu pk hk (fun h' F' N' => ?_) (hs _) ht (by rw [sizeLine_eq]; omega)
  exact fin _ _ (S.new (d := s₃.drawn) (k := s₃.toks) F' (fun p hp => N' p (.tail _ hp)) (N' _ (.head _)).1 (Nat.le_succ _))
theorem r_unpackTo {elts : List Expr} {k : Nat} {pos : Pos} {t : Addr} {items : List Value} {Q : Unit → Shared → Prop} (S : St s₀ L m news s) (hh : A.handled = none) (ht : s.heap.get? t = some (tO items))
    (hn : (assignEach elts env).length = items.length) (hstar : (assignEach elts env).findIdx? (·.1) = none)
    (h : ∀ s', St s₀ L m news s' → wpAny (model P0 w) A (assignInOrder ((assignEach elts env).map (·.2)) items) Q E s') : wpAny (model P0 w) A (assign (.Tuple elts k pos) env (.ref t)) Q E s := by
  refine assign_Tuple_tuple hh (items := items.toArray) ⟨_, ht, rfl, _, rfl⟩ (by simpa using hn) hstar (fun h' he => ?_)
  exact h _ (S.step ⟨fun b o e => he b o (Nat.ne_of_lt (Heap.lt_size e)) e, rfl, rfl⟩)
theorem r_sliceto {x : Str} {t : Tok} {value : Expr} {upper : Expr} {p : Pos} {Q : Value → Shared → Prop}
    (h : wpAny (model P0 w) A (eval upper env) (fun vu s₂ => ∃ j u m news, vu = .int j u ∧ St s₀ L m news s₂ ∧ x.length ≤ 10000 ∧ ∀ t s', St s₀ L m news s' → Q (.str (Txt.slice x none (some j)) t) s') E s)
    (hs : ∀ a, subscripted (.Slice none (some upper) none p) false (.str x t) (.ref a) = operate [.ref a, .str x t] (getItem (.str x t) (.ref a)) := by intro _; with_unfolding_all rfl)
    (ht : ∀ r, letTemporaryGo value (.str x t) r = pure () := by intro _; with_unfolding_all rfl) :
    wpAny (model P0 w) A (eval (.Slice none (some upper) none p) env) (fun i s₂ => wpAny (model P0 w) A (subscriptTail value (.Slice none (some upper) none p) (.str x t) i) Q E s₂) E s := by
  refine wpAny_Slice (evalPart_none_step (evalPart_some_step (wpAny_mono h (fun vu s₂ h₂ => ?_) fun _ _ e => e)))
  obtain ⟨j, u, m, news, rfl, S, hz, fin⟩ := h₂
  exact evalPart_none_step (slice_strN_ns S.fr S.nw (fun h' t' k F' N' => fin t' _ ⟨F', N', S.nd, S.gens, S.os⟩) (hs _) ht (by rw [sizeLine_eq]; omega))
theorem r_slicefrom {x : Str} {t : Tok} {value : Expr} {lower : Expr} {p : Pos} {Q : Value → Shared → Prop}
    (h : wpAny (model P0 w) A (eval lower env) (fun vu s₂ => ∃ j u m news, vu = .int j u ∧ St s₀ L m news s₂ ∧ x.length ≤ 10000 ∧ ∀ t s', St s₀ L m news s' → Q (.str (Txt.slice x (some j) none) t) s') E s)
    (hs : ∀ a, subscripted (.Slice (some lower) none none p) false (.str x t) (.ref a) = operate [.ref a, .str x t] (getItem (.str x t) (.ref a)) := by intro _; with_unfolding_all rfl)
    (ht : ∀ r, letTemporaryGo value (.str x t) r = pure () := by intro _; with_unfolding_all rfl) :
    wpAny (model P0 w) A (eval (.Slice (some lower) none none p) env) (fun i s₂ => wpAny (model P0 w) A (subscriptTail value (.Slice (some lower) none none p) (.str x t) i) Q E s₂) E s := by
  refine wpAny_Slice (evalPart_some_step (wpAny_mono h (fun vu s₂ h₂ => ?_) fun _ _ e => e))
  obtain ⟨j, u, m, news, rfl, S, hz, fin⟩ := h₂
  exact evalPart_none_step (evalPart_none_step (slice_strN_sn S.fr S.nw (fun h' t' k F' N' => fin t' _ ⟨F', N', S.nd, S.gens, S.os⟩) (hs _) ht (by rw [sizeLine_eq]; omega)))
theorem r_mullist {l : Addr} {vs : List Value} {k : Nat} {n : Nat} {u : Tok} {Q : Value → Shared → Prop} (S : St s₀ L m news s) (hl : s.heap.get? l = some (lO vs k)) (hne : vs ≠ []) (hz : vs.length * n ≤ 10000) (hn : n ≤ 10000)
    (h : ∀ a s', St s₀ L m ((a, lO (List.replicate n vs).flatten 0) :: news) s' → Q (.ref a) s') : wpAny (model P0 w) A (binaryOp .Mult (.ref l) (.int n u)) Q E s := by
  refine mul_list S.fr S.nw hl (by omega) (by omega) (by simpa using (by omega : vs.length * n ≤ 2 ^ 24)) (fun h' F' N' => ?_)
  have e : List.foldl (fun x1 x2 => x1 ++ x2) #[] (List.replicate (if vs.toArray.isEmpty = true then 0 else (n : Int).toNat) vs.toArray) = (List.replicate n vs).flatten.toArray := by
    rw [if_neg (by simpa using hne)]
    have : ∀ (k : Nat) (acc : Array Value), List.foldl (fun x1 x2 => x1 ++ x2) acc (List.replicate k vs.toArray) = acc ++ (List.replicate k vs).flatten.toArray := by
      intro k
      induction k with
      | zero => intro acc; simp
      | succ k ih => intro acc; rw [List.replicate_succ, List.foldl_cons, ih, List.replicate_succ, List.flatten_cons]; simp
    rw [this]; simp
  rw [e] at N'
  exact h _ _ (S.new (d := s.drawn) (k := s.toks) F' (fun p hp => N' p (.tail _ hp)) (N' _ (.head _)).1 (Nat.le_refl _))
def Hide (P : Prop) : Prop := P
theorem wpAny_forIn_two {M : Model} {β : Type} (r : Std.Legacy.Range) (f : Nat → β → Sem (ForInStep β)) (b : β) {Q : β → Shared → Prop}
    (h : Hide (r = [0:2] ∧ wpAny M A (f 0 b) (fun r s' => match r with | .done b' => Q b' s' | .yield b' => wpAny M A (f 1 b') (fun r s' => match r with | .done b' => Q b' s' | .yield b' => Q b' s') E s') E s)) : wpAny M A (forIn r b f) Q E s := by
  obtain ⟨rfl, h⟩ := h
  rw [Std.Legacy.Range.forIn_eq_forIn_range']
  show wpAny _ _ (forIn [0, 1] b f) _ _ _
  rw [List.forIn_cons]
  refine wpAny_bind (wpAny_mono h (fun r s' hr => ?_) fun _ _ h' => h')
  cases r with
  | done b' => exact wpAny_pure hr
  | yield b' =>
    show wpAny _ _ (forIn [1] b' f) _ _ _
    rw [List.forIn_cons]
    refine wpAny_bind (wpAny_mono hr (fun r s' hr => ?_) fun _ _ h' => h')
    cases r with
    | done b' => exact wpAny_pure hr
    | yield b' => exact wpAny_pure hr
open PySem.MeetsSeq in
theorem tuple_index2 (l : Addr) (a b x : Str) (ta tb t : Tok) (hx : x = a ∨ x = b) :
    Meets (Builtin.«tuple.index» ⟨[.ref l, .str x t], []⟩)
      (fun _ R s => s.heap.get? l = some (tO [.str a ta, .str b tb]) ∧ R (.ok (.ret (.int (if a = x then 0 else 1) s.toks))) { s with toks := s.toks + 1 }) :=
  .of_wp fun prog w A R s h => by
    obtain ⟨hp, g, d, tk, os⟩ := s; obtain ⟨hl, h⟩ := h
    unfold Builtin.«tuple.index»
    wp_walk using wpAny_loadPart' hl, wpAny_forIn_two _ _ _
    unfold Hide
    refine ⟨rfl, ?_⟩
    show wpAny _ _ (do let __do_lift ← eqBool (.str a ta) (.str x t); _) _ _ _
    refine wpAny_bind (eqBool_str ?_)
    by_cases q : a = x
    · rw [show (a == x) = true from by simpa using q]
      rw [if_pos q] at h
      wp_walk
      exact ⟨_, rfl, h⟩
    · have hb : b = x := by rcases hx with rfl | rfl; exact absurd rfl q; rfl
      rw [show (a == x) = false from by simpa using q]
      rw [if_neg q] at h
      wp_walk
      show wpAny _ _ (eqBool (.str b tb) (.str x t)) _ _ _
      refine eqBool_str ?_
      rw [show (b == x) = true from by simpa using hb]
      wp_walk
      exact ⟨_, rfl, h⟩
theorem r_tupindex {l : Addr} {a b x : Str} {ta tb t : Tok} {Q : Value → Shared → Prop} (S : St s₀ L m news s) (hl : s.heap.get? l = some (tO [.str a ta, .str b tb])) (hx : x = a ∨ x = b)
    (h : ∀ t s', St s₀ L m news s' → Q (.int (if a = x then 0 else 1) t) s') : wpAny (model P0 w) A (call (.builtin "tuple.index") [.ref l, .str x t]) Q E s :=
  call_meets F.slot_tuple_index ⟨_, hl, rfl⟩ F.entry_tuple_index (F.args_tuple_index_2 _ _) (tuple_index2 l a b x ta tb t hx) ⟨hl, h _ _ S.tok⟩
theorem getMethod_tup {pl : Sem Bool} {l : Addr} {items : List Value} {Q : Value × List Value → Shared → Prop} (hl : s.heap.get? l = some (tO items)) (h : Q (.builtin "tuple.index", [.ref l]) s) :
    wpAny (model P0 w) A (getMethod (.ref l) "index" pl) Q E s :=
  getMethod_builtin (T := "tuple") ⟨_, hl, rfl⟩ PySem.F.plainAttrs_tuple F.slot_tuple_index F.type_tuple_index (fun a e => by cases e; exact ⟨_, hl, rfl⟩) h
theorem src_str {x : Str} {t : Tok} (hh : A.handled = none) : Src w A (.str x t) s x.cps.size (SignAt x) := by
  intro Q E h
  have go : ∀ (T : String) (IS : Nat → Heap → Prop), (∀ j h, IS j h → ∃ o, h.get? s.heap.objs.size = some o) → Walks P0 w A s.heap.objs.size [s.heap.objs.size] [s.heap.objs.size] x.cps.size (SignAt x) IS → IS 0 (s.heap.push { cls := .type T, data := .fields #[.str x t, .int 0 0] }) →
      Q (.ref s.heap.objs.size) { s with heap := s.heap.push { cls := .type T, data := .fields #[.str x t, .int 0 0] } } := by
    intro T IS hI W hIS
    refine h _ _ _ _ _ W hI (push_ext s _ _ _) (get_size _) (Heap.get?_push_size _ rfl) (by rw [Heap.size_push]; exact Nat.le_succ _) hIS ?_
    intro b hb hne
    simp only [List.mem_cons, List.not_mem_nil, or_false] at hb
    exact absurd hb hne
  cases ha : x.cps.all (· < 128)
  · exact wpAny_pyIter_wide ha (go _ _ (fun j h hi => let ⟨o, e, _⟩ := hi; ⟨o, e⟩) (Walks.strWide hh _ x t) ⟨_, Heap.get?_push_size _ rfl, rfl, rfl⟩)
  · exact wpAny_pyIter_ascii ha (go _ _ (fun j h hi => let ⟨o, e, _⟩ := hi; ⟨o, e⟩) (Walks.strAscii hh _ x t) ⟨_, Heap.get?_push_size _ rfl, rfl, rfl⟩)
end
end partMine21
section partMine22
set_option autoImplicit false
/-- the data that the law's first part leaves -/
structure LD where
  i : Nat
  cs : List Int
  (cl l1 l2 pa : Addr)
  (vsC vs1 vs2 : List Value)
  (kC k1 k2 : Nat)
  (tb t0 t1 : Tok)
  (o3 o4 : Obj)
abbrev lawE (L a : Addr) (cd : Value) : Env := envOfC (D 24).name (D 24).scope L a cd
structure LawA (d : LD) (L : Addr) (m : Str → Option Value) (ex : Nw) : Prop where
  hi : d.i < 7
  cells : (L + 1 + 1 + 1, d.o3) ∈ ex ∧ d.o3.data = .cell (some (.ref d.cl)) ∧ (d.cl, lO d.vsC d.kC) ∈ ex ∧ IntsAre d.vsC d.cs ∧ d.cs.length = 5 ∧ ∀ c ∈ d.cs, 0 ≤ c ∧ c < 1000000
  first : m "first" = some (.ref d.l1) ∧ (d.l1, lO d.vs1 d.k1) ∈ ex ∧ All2 (Two (c0T.getD d.i 0)) d.vs1 (s0T.getD d.i [])
  second : m "second" = some (.ref d.l2) ∧ (d.l2, lO d.vs2 d.k2) ∈ ex ∧ All2 (Two (c1T.getD d.i 0)) d.vs2 (s1T.getD d.i [])
  both : m "both" = some (.str ⟨(bothT.getD d.i []).toArray⟩ d.tb)
  pair : (L + 1 + 1 + 1 + 1, d.o4) ∈ ex ∧ d.o4.data = .cell (some (.ref d.pa)) ∧ (d.pa, tO [.str ⟨#[c0T.getD d.i 0]⟩ d.t0, .str ⟨#[c1T.getD d.i 0]⟩ d.t1]) ∈ ex
  ieq : ((d.cs.getD 0 0).fmod 7) = d.i
theorem LawA.mono {d : LD} {L : Addr} {m m' : Str → Option Value} {ex ex' : Nw} (h : LawA d L m ex) (hx : ∀ p ∈ ex, p ∈ ex') (h1 : m' "first" = m "first") (h2 : m' "second" = m "second") (h3 : m' "both" = m "both") : LawA d L m' ex' :=
  ⟨h.hi, ⟨hx _ h.cells.1, h.cells.2.1, hx _ h.cells.2.2.1, h.cells.2.2.2⟩, ⟨h1 ▸ h.first.1, hx _ h.first.2.1, h.first.2.2⟩, ⟨h2 ▸ h.second.1, hx _ h.second.2.1, h.second.2.2⟩, h3 ▸ h.both, ⟨hx _ h.pair.1, h.pair.2.1, hx _ h.pair.2.2⟩, h.ieq⟩
section
variable {w : World} {A : Around} {E : Value → Shared → Prop} {s₀ s : Shared} {L : Addr} {m : Str → Option Value} {news : Nw} {env : Env} {mg mb : Str → Option Value}
theorem preSum_ints (ns : List Int) (n : Nat) : ∃ x, preSum (fun i => ns.getD i 0) n = x := ⟨_, rfl⟩
def valOf (i : Nat) : Expr := match (D 24).body[i]? with | some (.Assign _ v _) => v | _ => .Name "x" default
/-- cells = [...] -/
theorem law_cells {a sa oa : Addr} {cd : Value} {vs : List Value} {ns : List Int} {o1 o2 : Obj} {t0 t1 t2 t3 t4 : Tok} {Q : Value → Shared → Prop} (hh : A.handled = none) (G : Gl w mg mb s₀.heap) (S : St s₀ L m news s)
    (hs : s₀.heap.IsList sa vs.toArray) (hi : IntsAre vs ns) (hl : vs.length ≤ 1000)
    (m1 : (L + 1, o1) ∈ news) (m2 : (L + 1 + 1, o2) ∈ news) (h1 : o1.data = .cell (some (.ref sa))) (h2 : o2.data = .cell (some (.ref oa))) (mo : (oa, lO [.int 0 t0, .int 0 t1, .int 27 t2, .int 0 t3, .int 0 t4] 0) ∈ news)
    (h : ∀ Dr ys k cs s', St s₀ L m ((Dr, lO ys k) :: news) s' → IntsAre ys cs → cs.length = 5 → (∀ c ∈ cs, 0 ≤ c ∧ c < 1000000) → Q (.ref Dr) s') :
    wpAny (model P0 w) A (eval (valOf 1) (lawE L a cd)) Q E s := by
  have hcell : ∀ {s'' : Shared} {L' m' nw'}, St s L' m' nw' s'' → s''.heap.IsCell (L + 1) (some (.ref sa)) ∧ s''.heap.IsCell (L + 1 + 1) (some (.ref oa)) := fun S' => ⟨⟨o1, S'.base (S.mem m1), h1⟩, ⟨o2, S'.base (S.mem m2), h2⟩⟩
  refine r_comp (cl := [("script", L + 1), ("own", L + 1 + 1)]) (by kernel_rfl) (by decide +kernel) (by kernel_rfl) (by decide +kernel) ?_
  walk_at "call"
  walk_at "bi range"
  refine PyProof.Rows.callWith_type1 ?_
  walk_at "ci"
  rename_i t₂ s₂ S₂
  walk_at "sp0"
  refine r_range1 S₂ fun r u v s₃ S₃ => ?_
  refine ⟨_, _, fun j ys m' nw' => nw' = [] ∧ ∃ cs, IntsAre ys cs ∧ cs.length = j ∧ ∀ c ∈ cs, 0 ≤ c ∧ c < 1000000, src_range (n := 5) hh (S₃.mem (.head _)) (by decide), by rw [sizeLine_eq]; omega, ⟨rfl, [], .nil, rfl, nofun⟩, ?_, ?_, ?_⟩
  · rintro j ys m' nw' ⟨_, cs, hc, hl, _⟩
    have := ints_len hc
    omega
  · rintro C Dd j k v' ys m' nw' I oo s' hj ⟨tk, rfl⟩ ⟨rfl, cs, hc, hcl, hcr⟩ S'
    with_reducible refine PyProof.Rows.assign_Name ?_
    walk_at "st"
    rename_i s₄ S₄
    refine wpAny_tests_nil ?_
    rw [if_pos rfl]
    have hown : ∃ x tx, [Value.int 0 t0, .int 0 t1, .int 27 t2, .int 0 t3, .int 0 t4][j]? = some (.int x tx) := by
      have : j = 0 ∨ j = 1 ∨ j = 2 ∨ j = 3 ∨ j = 4 := by omega
      rcases this with rfl | rfl | rfl | rfl | rfl <;> exact ⟨_, _, rfl⟩
    obtain ⟨x, tx, hx⟩ := hown
    have hoa : s₄.heap.get? oa = some (lO [.int 0 t0, .int 0 t1, .int 27 t2, .int 0 t3, .int 0 t4] 0) := S₄.base (S₃.mem (.tail _ mo))
    have hsa : s₄.heap.IsList sa vs.toArray := isList_base S₄ (isList_base S₃ hs)
    have hc1 : s₄.heap.IsCell (L + 1) (some (.ref sa)) := ⟨o1, S₄.base (S₃.mem (.tail _ m1)), h1⟩
    have hc2 : s₄.heap.IsCell (L + 1 + 1) (some (.ref oa)) := ⟨o2, S₄.base (S₃.mem (.tail _ m2)), h2⟩
    have G' := G.keeps S₃.fr.keep
    with_reducible refine wpAny_BinOp ?_
    with_reducible refine wpAny_BinOp ?_
    with_reducible refine Subscript_ ?_
    refine r_cell (by kernel_rfl) hc2 ?_ (by kernel_rfl) (by kernel_rfl) (by kernel_rfl)
    walk_at "ld"
    refine r_itemlist (lO_list hoa) (by omega) (by omega) (x := .int x tx) (by simpa using hx) ?_
    walk_at "call"
    walk_at "bi sum"
    refine PyProof.Rows.callWith_builtin1 ?_
    walk_at "more"
    with_reducible refine Subscript_ ?_
    refine r_cell (by kernel_rfl) hc1 ?_ (by kernel_rfl) (by kernel_rfl) (by kernel_rfl)
    refine r_slice3 (s₀ := s₃) (L := C) ?_
    refine evalPart_some_step ?_
    walk_at "ld"
    refine evalPart_none_step ?_
    refine r_int S₄ fun t₅ s₅ S₅ => ?_
    refine ⟨_, _, _, vs.toArray, _, _, .int _ _, .none, .int _ _, nofun, S₅, isList_base S₅ (isList_base S₃ hs), by rw [List.size_toArray]; omega, fun as s₆ S₆ => ?_⟩
    walk_at "sp0"
    have hpick := hi.pick (some (j : Int)) none (some 5)
    refine r_sum (val := fun i => (pickNums ns (some (j : Int)) none (some 5)).getD i 0) S₆ (src_list (by exact hh) (lO_list (S₆.mem (.head _)))) (fun i v hP => ?_) fun t₇ s₇ S₇ => ?_
    · have hP' : (slicePick vs.toArray (some (j : Int)) none (some 5)).toList[i]? = some v := by simpa using hP
      obtain ⟨n, tn, hn, rfl⟩ := ints_at hpick hP'
      exact ⟨tn, by simp [List.getD_eq_getElem?_getD, hn]⟩
    refine r_add S₇ fun t₈ s₈ S₈ => ?_
    refine r_int S₈ fun t₉ s₉ S₉ => ?_
    refine r_mod S₉ (by decide) fun t₁₀ s₁₀ S₁₀ => ?_
    have hb := fmod_lt (i := x + preSum (fun i => (pickNums ns (some (j : Int)) none (some 5)).getD i 0) (slicePick vs.toArray (some (j : Int)) none (some 5)).toList.toArray.size) (n := 1000000) (by decide)
    refine ⟨_, _, S₁₀.weaken (by exact List.Sublist.cons _ (List.Sublist.refl _)), rfl, _, ints_app hc (.cons _ _ .nil), by rw [List.length_append, hcl]; rfl, ?_⟩
    intro c hcm
    rcases List.mem_append.mp hcm with q | q
    · exact hcr c q
    · rw [List.mem_singleton.mp q]; exact hb
  · rintro Dd k ys m' nw' s₇ ⟨rfl, cs, hc, hl, hr⟩ Md
    have S₄ := S₃.join Md
    exact h Dd ys k cs s₇ (S₄.weaken (by exact List.Sublist.cons_cons _ (List.Sublist.cons _ (List.Sublist.refl _)))) hc hl hr
end
end partMine22
section partMine23
set_option autoImplicit false
section
variable {w : World} {A : Around} {E : Value → Shared → Prop} {s₀ s : Shared} {L : Addr} {m : Str → Option Value} {news : Nw} {env : Env} {mg mb : Str → Option Value}
structure KeepsNw (c : Addr) (news news' : Nw) : Prop where
  ne : ∀ p ∈ news, p.1 ≠ c → p ∈ news'
  l : ∀ a vs k, (a, lO vs k) ∈ news → (a, lO vs k) ∈ news'
  t : ∀ a vs, (a, tO vs) ∈ news → (a, tO vs) ∈ news'
theorem r_storecell_m {x : Str} {v : Value} {c : Addr} {o : Obj} {v₀ : Option Value} {Q : Unit → Shared → Prop} (S : St s₀ L m news s) (hm : (c, o) ∈ news) (ho : o.data = .cell v₀)
    (h : ∀ o' news' s', o'.data = .cell (some v) → (c, o') ∈ news' → KeepsNw c news news' → St s₀ L m news' s' → Q () s')
    (hk : env.scope.kind = .function) (hl : env.kindOf x = some .cell) (hc : env.cells.lookup x = some c) :
    wpAny (model P0 w) A (storeName env x v) Q E s := by
  obtain ⟨i, hi⟩ := List.getElem?_of_mem hm
  obtain ⟨hil, hie⟩ := List.getElem?_eq_some_iff.mp hi
  refine r_storecell_i i S hi ho (fun o' s' ho' S' => ?_) hk hl hc
  have key : ∀ p ∈ news, p.1 ≠ c → p ∈ news.set i (c, o') := by
    intro p hp hne
    obtain ⟨j, hj⟩ := List.getElem?_of_mem hp
    have hij : i ≠ j := by rintro rfl; rw [hi] at hj; cases hj; exact hne rfl
    exact List.mem_of_getElem? (i := j) (by rw [List.getElem?_set, if_neg hij]; exact hj)
  have uq : ∀ p ∈ news, p.1 = c → p.2 = o := by
    intro p hp hpc
    have e1 := (S.nw p hp).1
    have e2 := S.mem hm
    rw [hpc, e2] at e1
    exact (Option.some.inj e1).symm
  refine h o' _ s' ho' (List.mem_of_getElem? (i := i) (by rw [List.getElem?_set, if_pos rfl, if_pos hil])) ⟨key, fun a vs k hp => key _ hp fun q => ?_, fun a vs hp => key _ hp fun q => ?_⟩ S'
  · have := uq _ hp q; rw [← this] at ho; cases ho
  · have := uq _ hp q; rw [← this] at ho; cases ho
/-- own, cells, the letters, pair -/
theorem law_partA {a sa : Addr} {cd : Value} {vs : List Value} {ns : List Int} {o1 o2 o3 o4 o5 o6 : Obj} {Q : Flow → Shared → Prop} (R : Room A 3) (G : Gl w mg mb s₀.heap)
    (S : St s₀ L m [(L + 1 + 1 + 1 + 1 + 1 + 1, o6), (L + 1 + 1 + 1 + 1 + 1, o5), (L + 1 + 1 + 1 + 1, o4), (L + 1 + 1 + 1, o3), (L + 1 + 1, o2), (L + 1, o1)] s)
    (hs : s₀.heap.IsList sa vs.toArray) (hi : IntsAre vs ns) (hl : vs.length ≤ 1000) (h1 : o1.data = .cell (some (.ref sa))) (h2 : o2.data = .cell none) (h3 : o3.data = .cell none) (h4 : o4.data = .cell none)
    (h : ∀ d m' ex s', LawA d L m' ex → (L + 1 + 1 + 1 + 1 + 1, o5) ∈ ex → (L + 1 + 1 + 1 + 1 + 1 + 1, o6) ∈ ex → St s₀ L m' ex s' → wpAny (model P0 w) A (execs ((D 24).body.drop 4) (lawE L a cd)) Q E s') :
    wpAny (model P0 w) A (execs (D 24).body (lawE L a cd)) Q E s := by
  have hh := R.handled
  refine wpAny_execs_cons ?_
  walk_at "as"
  with_reducible refine List_ ?_
  iterate 5 walk_at "ci"
  walk_at "sp0"
  refine r_newlist (by assumption) (by simp) fun oa s₂ S₂ => ?_
  refine r_storecell_i 5 S₂ rfl h2 (fun o2' s₃ h2' S₃ => ?_) (by kernel_rfl) (by kernel_rfl) (by kernel_rfl)
  walk_at "ec"
  walk_at "as"
  refine law_cells (a := a) (cd := cd) (o1 := o1) (o2 := o2') (sa := sa) (oa := oa) hh G S₃ hs hi hl (by simp) (by simp) h1 h2' (List.Mem.head _) fun Dr ys k cs s₄ S₄ hys hcl hcr => ?_
  refine r_storecell_i 5 S₄ rfl h3 (fun o3' s₅ h3' S₅ => ?_) (by kernel_rfl) (by kernel_rfl) (by kernel_rfl)
  obtain ⟨N5, S₅, mD, m3, m4, m5, m6⟩ : ∃ N5, St s₀ L m N5 s₅ ∧ (Dr, lO ys k) ∈ N5 ∧ (L + 1 + 1 + 1, o3') ∈ N5 ∧ (L + 1 + 1 + 1 + 1, o4) ∈ N5 ∧ (L + 1 + 1 + 1 + 1 + 1, o5) ∈ N5 ∧ (L + 1 + 1 + 1 + 1 + 1 + 1, o6) ∈ N5 :=
    ⟨_, S₅, .head _, .tail _ (.tail _ (.tail _ (.tail _ (.tail _ (.head _))))), .tail _ (.tail _ (.tail _ (.tail _ (.head _)))), .tail _ (.tail _ (.tail _ (.head _))), .tail _ (.tail _ (.head _))⟩
  have hc3 : s₅.heap.IsCell (L + 1 + 1 + 1) (some (.ref Dr)) := ⟨o3', S₅.mem m3, h3'⟩
  obtain ⟨f1, hf1, F1⟩ := G.at 15 (by decide) "_law_letters" (by kernel_rfl)
  walk_at "ec"
  refine Assign_Tuple ?_ (by kernel_rfl) (by kernel_rfl)
  walk_at "call"
  walk_at "gl"
  refine r_callfn F1 ?_ nofun
  walk_at "more"
  with_reducible refine wpAny_BinOp ?_
  with_reducible refine Subscript_ ?_
  refine r_cell (by kernel_rfl) hc3 ?_ (by kernel_rfl) (by kernel_rfl) (by kernel_rfl)
  refine r_int S₅ fun t₆ s₆ S₆ => ?_
  refine r_item_ints (lO_list (S₆.mem mD)) hys (by decide) (by rw [hcl]; decide) (by omega) fun u₆ => ?_
  refine r_int S₆ fun t₇ s₇ S₇ => ?_
  refine r_mod S₇ (by decide) fun t₈ s₈ S₈ => ?_
  have hb := fmod_lt (i := cs.getD (0 : Int).toNat 0) (n := 7) (by decide)
  obtain ⟨i, hii⟩ := Int.eq_ofNat_of_zero_le hb.1
  have hi7 : i < 7 := by have := hb.2; omega
  rw [hii]
  walk_at "sp0"
  refine ⟨fun o e => S₈.base e, ?_⟩
  refine c_letters (R.less (by decide)) (G.keeps S₈.fr.keep) (F1.keeps S₈.fr.keep) hi7 fun tp l1 l2 vs1 vs2 k1 k2 u nw s₉ Md mt ml1 ml2 ha1 ha2 => ?_
  have S₉ := S₈.join Md
  refine r_unpackTo S₉ hh (S₉.mem (List.mem_append_left _ mt)) (by kernel_rfl) (by kernel_rfl) fun s₁₀ S₁₀ => ?_
  refine assignInOrder_cons ?_
  refine PyProof.Rows.assign_Name ?_
  walk_at "st"
  rename_i s₁₁ S₁₁
  refine assignInOrder_cons ?_
  refine PyProof.Rows.assign_Name ?_
  walk_at "st"
  rename_i s₁₂ S₁₂
  refine assignInOrder_cons ?_
  refine PyProof.Rows.assign_Name ?_
  walk_at "st"
  rename_i s₁₃ S₁₃
  refine assignInOrder_nil ?_
  -- pair
  have hl1 := S₁₃.mem (List.mem_append_left _ ml1)
  have hl2 := S₁₃.mem (List.mem_append_left _ ml2)
  obtain ⟨sg1, r1, hg1⟩ : ∃ x r, s0T.getD i [] = x :: r := by
    have : ∀ i, i < 7 → ∃ x r, s0T.getD i [] = x :: r := by
      intro i hi
      have : i = 0 ∨ i = 1 ∨ i = 2 ∨ i = 3 ∨ i = 4 ∨ i = 5 ∨ i = 6 := by omega
      rcases this with rfl | rfl | rfl | rfl | rfl | rfl | rfl <;> exact ⟨_, _, rfl⟩
    exact this i hi7
  obtain ⟨sg2, r2, hg2⟩ : ∃ x r, s1T.getD i [] = x :: r := by
    have : ∀ i, i < 7 → ∃ x r, s1T.getD i [] = x :: r := by
      intro i hi
      have : i = 0 ∨ i = 1 ∨ i = 2 ∨ i = 3 ∨ i = 4 ∨ i = 5 ∨ i = 6 := by omega
      rcases this with rfl | rfl | rfl | rfl | rfl | rfl | rfl <;> exact ⟨_, _, rfl⟩
    exact this i hi7
  obtain ⟨v1, hv1, tv1, rfl⟩ := ha1.get (i := 0) (b := sg1) (by rw [hg1]; rfl)
  obtain ⟨v2, hv2, tv2, rfl⟩ := ha2.get (i := 0) (b := sg2) (by rw [hg2]; rfl)
  walk_at "ec"
  walk_at "as"
  with_reducible refine Tuple_ ?_
  walk_at "more"
  with_reducible refine Subscript_ ?_
  with_reducible refine Subscript_ ?_
  walk_at "ld"
  refine r_int S₁₃ fun t₁₄ s₁₄ S₁₄ => ?_
  refine r_itemlist (lO_list (S₁₄.mem (List.mem_append_left _ ml1))) (by decide) (by decide) hv1 ?_
  refine r_int S₁₄ fun t₁₅ s₁₅ S₁₅ => ?_
  refine r_itemstr S₁₅ (c := c0T.getD i 0) (by decide) (by decide) rfl fun u1 s₁₆ S₁₆ => ?_
  walk_at "more"
  with_reducible refine Subscript_ ?_
  with_reducible refine Subscript_ ?_
  walk_at "ld"
  refine r_int S₁₆ fun t₁₇ s₁₇ S₁₇ => ?_
  refine r_itemlist (lO_list (S₁₇.mem (List.mem_append_left _ ml2))) (by decide) (by decide) hv2 ?_
  refine r_int S₁₇ fun t₁₈ s₁₈ S₁₈ => ?_
  refine r_itemstr S₁₈ (c := c1T.getD i 0) (by decide) (by decide) rfl fun u2 s₁₉ S₁₉ => ?_
  walk_at "sp0"
  refine r_newtuple S₁₉ (by simp) fun pa s₂₀ S₂₀ => ?_
  refine r_storecell_m S₂₀ (.tail _ (List.mem_append_right _ m4)) h4 (fun o4' ex s₂₂ h4' hm4 hk S₂₂ => ?_) (by kernel_rfl) (by kernel_rfl) (by kernel_rfl)
  refine h ⟨i, cs, Dr, l1, l2, pa, ys, vs1, vs2, k, k1, k2, u, u1, u2, o3', o4'⟩ _ ex s₂₂ ⟨hi7, ⟨?_, h3', ?_, hys, hcl, hcr⟩, ⟨rfl, ?_, ha1⟩, ⟨rfl, ?_, ha2⟩, rfl, ⟨hm4, h4', ?_⟩, hii⟩ ?_ ?_ S₂₂
  · exact hk.ne _ (.tail _ (List.mem_append_right _ m3)) (Nat.ne_of_lt (Nat.lt_succ_self _))
  · exact hk.l _ _ _ (.tail _ (List.mem_append_right _ mD))
  · exact hk.l _ _ _ (.tail _ (List.mem_append_left _ ml1))
  · exact hk.l _ _ _ (.tail _ (List.mem_append_left _ ml2))
  · exact hk.t _ _ (.head _)
  · exact hk.ne _ (.tail _ (List.mem_append_right _ m5)) (Nat.ne_of_gt (Nat.lt_succ_self _))
  · exact hk.ne _ (.tail _ (List.mem_append_right _ m6)) (Nat.ne_of_gt (Nat.lt_succ_of_lt (Nat.lt_succ_self _)))
end
end partMine23
section partMine24
set_option autoImplicit false
section
variable {w : World} {A : Around} {E : Value → Shared → Prop} {s₀ s : Shared} {L : Addr} {m : Str → Option Value} {news : Nw} {env : Env} {mg mb : Str → Option Value}
/-- the same for a target of several names -/
theorem for_walkT {I : Addr} {oI : Obj} {fp : List Addr} {n : Nat} {P : Nat → Value → Prop} {IS : Nat → Heap → Prop} {target : Expr} {body : List Stmt} {Q : Flow → Shared → Prop} {X : Value → Shared → Prop}
    (W : Walks P0 w A I fp [I] n P IS) (hasI : ∀ j h, IS j h → ∃ o, h.get? I = some o) (S : St s₀ L m ((I, oI) :: news) s) (h0 : IS 0 s.heap) (hb : ∀ b ∈ fp, b ≠ I → ∃ o, s.heap.get? b = some o)
    (J : Nat → (Str → Option Value) → Nw → Prop) (hJ : J 0 m news)
    (hfp : ∀ j m' nw', J j m' nw' → ∀ b ∈ fp, b ≠ I → ∀ o, s.heap.get? b = some o → s₀.heap.get? b = some o ∨ (b, o) ∈ nw')
    (turn : ∀ j v o m' nw' s', j < n → P j v → J j m' nw' → St s₀ L m' ((I, o) :: nw') s' → wpAny (model P0 w) A (assign target env v) (fun _ s₂ => wpAny (model P0 w) A (execs body env) (fun f s₃ => match f with
      | .next | .cont => ∃ m'' nw'', St s₀ L m'' ((I, o) :: nw'') s₃ ∧ J (j + 1) m'' nw''
      | .brk => Q .next s₃
      | .ret v => Q (.ret v) s₃) (fun _ _ => False) s₂) (fun _ _ => False) s')
    (done : ∀ m' nw' s', J n m' nw' → St s₀ L m' nw' s' → Q .next s') (ht : ∀ j (s' : Shared) v (Q' : Unit → Shared → Prop) (E' : Value → Shared → Prop), IS j s'.heap → Q' () s' → wpAny (model P0 w) A (letOwnedTupleGo target (.ref I) v) Q' E' s') :
    codeAny (model P0 w) A (.forLoop target (.ref I) body [] env) (fun r s' => match r with | .ok f => Q f s' | .error e => X e s') s := by
  refine codeAny_forLoop_any (fun k s' => ∃ j m' nw' o, j ≤ n ∧ k = n + 1 - j ∧ J j m' nw' ∧ St s₀ L m' ((I, o) :: nw') s' ∧ IS j s'.heap ∧ (∀ b ∈ fp, b ≠ I → ∀ o, s.heap.get? b = some o → s'.heap.get? b = some o)) ?_ (n + 1)
    ⟨0, m, news, oI, Nat.zero_le _, rfl, hJ, S, h0, fun _ _ _ _ e => e⟩
  rintro k s' ⟨j, m', nw', o, hj, rfl, hJ', S', hIS, hk⟩
  by_cases hjn : j < n
  · refine W.item j s' _ _ hjn hIS fun v h' tk hP hIS' hkeep => ?_
    obtain ⟨o', ho'⟩ := hasI _ _ hIS'
    have S₁ := S'.iter (k := tk) (d := s'.drawn) hkeep ho'
    refine ht _ _ _ _ _ hIS' ?_
    refine wpAny_mono (turn j v o' m' nw' _ hjn hP hJ' S₁) (fun _ s₂ h₂ => wpAny_mono h₂ (fun f s₃ h₃ => ?_) fun _ _ f => f.elim) fun _ _ f => f.elim
    have fin : (∃ m'' nw'', St s₀ L m'' ((I, o') :: nw'') s₃ ∧ J (j + 1) m'' nw'') → ∃ k', k' < n + 1 - j ∧ ∃ j m' nw' o, j ≤ n ∧ k' = n + 1 - j ∧ J j m' nw' ∧ St s₀ L m' ((I, o) :: nw') s₃ ∧ IS j s₃.heap ∧ (∀ b ∈ fp, b ≠ I → ∀ o, s.heap.get? b = some o → s₃.heap.get? b = some o) := by
      rintro ⟨m'', nw'', S₃, hJ₃⟩
      have keep₃ : ∀ b ∈ fp, b ≠ I → ∀ o, s.heap.get? b = some o → s₃.heap.get? b = some o := fun b hbf hbI ob hob => by
        rcases hfp _ _ _ hJ₃ b hbf hbI ob hob with z | z
        · exact S₃.base z
        · exact S₃.mem (.tail _ z)
      refine ⟨n + 1 - (j + 1), by omega, j + 1, m'', nw'', o', hjn, rfl, hJ₃, S₃, W.frame _ _ _ hIS' (fun b hbf ob hob => ?_), keep₃⟩
      by_cases hbI : b = I
      · subst hbI
        rw [ho'] at hob; cases hob
        exact S₃.mem (.head _)
      · obtain ⟨ob', hob'⟩ := hb b hbf hbI
        have := hkeep b ob' (by simpa using hbI) (hk b hbf hbI ob' hob')
        rw [hob] at this; cases this
        exact keep₃ b hbf hbI ob hob'
    cases f with
    | next => exact fin h₃
    | cont => exact fin h₃
    | brk => exact h₃
    | ret v => exact h₃
  · have : j = n := by omega
    subst this
    refine W.done s' _ _ hIS fun h' tk hkeep => ?_
    refine wpAny_execs_nil ?_
    refine done m' nw' _ hJ' ?_
    have S₂ : St s₀ L m' nw' s' := S'.drop
    have nI : ∀ b ob, s'.heap.get? b = some ob → b ≠ I → h'.get? b = some ob := fun b ob e q => hkeep b ob (by simpa using q) e
    have hI := S'.nw (I, o) (.head _)
    have nd := S'.nd
    rw [List.map_cons, List.nodup_cons] at nd
    obtain ⟨oL, es, ep, hL, r⟩ := S'.fr.ns
    refine ⟨⟨⟨oL, es, ep, nI _ _ hL (Ne.symm hI.2.1), r⟩, fun b ob e => nI b ob (S'.fr.keep b ob e) (fun q => ?_), S'.fr.above⟩, fun p hp => ?_, S₂.nd, S'.gens, S'.os⟩
    · rw [q] at e
      have h2 := hI.2.2
      rw [e] at h2; cases h2
    · have z := S₂.nw p hp
      exact ⟨nI _ _ z.1 (fun q => nd.1 (List.mem_map.mpr ⟨p, hp, q⟩)), z.2⟩
theorem letGo_listiter {target : Expr} {I l : Addr} {i : Nat} {v : Value} {Q' : Unit → Shared → Prop} {s' : Shared} (hit : s'.heap.IsListIter I l i) (h : Q' () s') :
    wpAny (model P0 w) A (letOwnedTupleGo target (.ref I) v) Q' E s' := by
  obtain ⟨o, ho, hc, hd⟩ := hit
  unfold letOwnedTupleGo
  cases target <;> first
    | exact wpAny_pure h
    | (cases v <;> first
        | exact wpAny_pure h
        | (refine wpAny_bind (wpAny_load ho ?_)
           rw [hc, hd]
           exact wpAny_pure h))
theorem r_forT {target iter : Expr} {body : List Stmt} {pos : Pos} {Q : Flow → Shared → Prop} (_S : St s₀ L m news s) (hh : A.handled = none)
    (h : wpAny (model P0 w) A (eval iter env) (fun xv s₁ => ∃ (ax : Addr) (items : List Value) (ko : Nat) (m : Str → Option Value) (news : Nw) (J : Nat → (Str → Option Value) → Nw → Prop), xv = .ref ax ∧ (ax, lO items ko) ∈ news ∧ St s₀ L m news s₁ ∧ J 0 m news ∧
      (∀ j m' nw', J j m' nw' → (ax, lO items ko) ∈ nw') ∧
      (∀ I j v o m' nw' s', items[j]? = some v → J j m' nw' → St s₀ L m' ((I, o) :: nw') s' → wpAny (model P0 w) A (assign target env v) (fun _ s₂ => wpAny (model P0 w) A (execs body env) (fun f s₃ => match f with
        | .next | .cont => ∃ m'' nw'', St s₀ L m'' ((I, o) :: nw'') s₃ ∧ J (j + 1) m'' nw''
        | .brk => Q .next s₃
        | .ret v => Q (.ret v) s₃) (fun _ _ => False) s₂) (fun _ _ => False) s') ∧
      (∀ m' nw' s', J items.length m' nw' → St s₀ L m' nw' s' → Q .next s')) E s)
    (hs : ∀ x, foldedSetIterable iter env x = pure x := by intro _; rfl) :
    wpAny (model P0 w) A (exec (.For target iter body [] pos) env) Q E s := by
  refine wpAny_For (wpAny_mono h (fun xv s₁ h₁ => ?_) fun _ _ e => e) hs
  obtain ⟨ax, items, ko, m, news, J, rfl, hax, S, hJ, hkeep, turn, done⟩ := h₁
  have hl : s₁.heap.IsList ax items.toArray := lO_list (S.mem hax)
  have hne : ax ≠ s₁.heap.objs.size := Nat.ne_of_lt (Heap.lt_size (S.mem hax))
  refine wpAny_pyIter_list hl ?_
  have S₂ := S.more (s' := { s₁ with heap := s₁.heap.push { cls := .type "list_iterator", data := .fields #[.ref ax, .int 0 0] } }) (push_ext s₁ _ s₁.drawn s₁.toks) (get_size _) (Heap.get?_push_size _ rfl)
  refine for_walkT (X := fun e s' => cameBackBy (model P0 w) A env E e s') (Walks.list hh s₁.heap.objs.size ax hne items.toArray) (fun j h hi => let ⟨o, e, _⟩ := hi.1; ⟨o, e⟩) S₂ ⟨⟨_, Heap.get?_push_size _ rfl, rfl, rfl⟩, hl.push _⟩ (fun b h1 h2 => ?_) J hJ (fun j m' nw' hj b h1 h2 o ho => ?_) (fun j v o m' nw' s' hj hP => turn _ j v o m' nw' s' (by simpa using hP)) (fun m' nw' s' hj => done m' nw' s' (by simpa using hj)) (fun j s' v Q' E' hi hq => letGo_listiter hi.1 hq)
  · simp only [List.mem_cons, List.not_mem_nil, or_false] at h1
    rcases h1 with rfl | rfl
    · exact absurd rfl h2
    · exact ⟨_, Heap.get?_push_of_some _ (S.mem hax)⟩
  · simp only [List.mem_cons, List.not_mem_nil, or_false] at h1
    rcases h1 with rfl | rfl
    · exact absurd rfl h2
    · have e := Heap.get?_push_of_some { cls := .type "list_iterator", data := .fields #[.ref b, .int 0 0] } (S.mem hax)
      have ho' : (s₁.heap.push { cls := .type "list_iterator", data := .fields #[.ref b, .int 0 0] }).get? b = some o := ho
      rw [e] at ho'; cases ho'
      exact .inr (hkeep _ _ _ hj)
theorem letters_fact : ∀ i, i < 7 → c0T.getD i 0 < 256 ∧ 256 ≤ c1T.getD i 0 := by decide
def sizeOf' (d : LD) : Nat := 4 + ((d.cs.getD 0 0).fdiv 7 |>.fmod 2).toNat
def restOf (d : LD) : Int := (d.cs.getD 1 0).fmod (sizeOf' d + 1)
theorem size_cases (d : LD) : sizeOf' d = 4 ∨ sizeOf' d = 5 := by
  have := fmod_lt (i := (d.cs.getD 0 0).fdiv 7) (n := 2) (by decide)
  unfold sizeOf'; omega
/-- the letters asked, size, rest, code -/
theorem law_partB {d : LD} {a : Addr} {cd : Value} {o5 : Obj} {Q : Flow → Shared → Prop} (R : Room A 3) (G : Gl w mg mb s₀.heap) (S : St s₀ L m news s) (W : LawA d L m news) (h5 : (L + 1 + 1 + 1 + 1 + 1, o5) ∈ news) (hd5 : o5.data = .cell none)
    (h : ∀ m' ex s' o5' tn tr ac, LawA d L m' ex → (L + 1 + 1 + 1 + 1 + 1, o5') ∈ ex → o5'.data = .cell (some (.int (sizeOf' d) tn)) → m' "rest" = some (.int (restOf d) tr) → m' "code" = some (.ref ac) → (∀ o6, (L + 1 + 1 + 1 + 1 + 1 + 1, o6) ∈ news → (L + 1 + 1 + 1 + 1 + 1 + 1, o6) ∈ ex) →
      St s₀ L m' ((ac, lO [] 0) :: ex) s' → wpAny (model P0 w) A (execs ((D 24).body.drop 8) (lawE L a cd)) Q E s') :
    wpAny (model P0 w) A (execs ((D 24).body.drop 4) (lawE L a cd)) Q E s := by
  have hh := R.handled
  have hpc : ∀ {m' nw' s'}, St s₀ L m' nw' s' → (∀ p ∈ news, p ∈ nw') → s'.heap.IsCell (L + 1 + 1 + 1 + 1) (some (.ref d.pa)) := fun S' hx => ⟨d.o4, S'.mem (hx _ W.pair.1), W.pair.2.1⟩
  have hpt : ∀ {m' nw' s'}, St s₀ L m' nw' s' → (∀ p ∈ news, p ∈ nw') → IsTup s'.heap d.pa [Value.str ⟨#[c0T.getD d.i 0]⟩ d.t0, .str ⟨#[c1T.getD d.i 0]⟩ d.t1].toArray := fun S' hx => ⟨_, S'.mem (hx _ W.pair.2.2), rfl, _, rfl⟩
  obtain ⟨hc0, hc1⟩ := letters_fact d.i W.hi
  obtain ⟨f1, hf1, F1⟩ := G.at 11 (by decide) "ISTERMINAL" (by kernel_rfl)
  obtain ⟨f2, hf2, F2⟩ := G.at 12 (by decide) "ISNONTERMINAL" (by kernel_rfl)
  refine wpAny_execs_cons ?_
  with_reducible refine r_forT S hh ?_ ?hs1
  case hs1 => (intro _; rfl)
  with_reducible refine List_ ?_
  walk_at "more"
  with_reducible refine Tuple_ ?_
  walk_at "more"
  walk_at "call"
  walk_at "bi ord"
  refine PyProof.Rows.callWith_builtin1 ?_
  walk_at "more"
  with_reducible refine Subscript_ ?_
  refine r_cell (by kernel_rfl) (hpc S (fun _ hp => hp)) ?_ (by kernel_rfl) (by kernel_rfl) (by kernel_rfl)
  refine r_int S fun t₂ s₂ S₂ => ?_
  refine item_tupleL (j := 0) (hpt S₂ (fun _ hp => hp)) (by decide) (by decide) (by rfl) rfl ?_
  walk_at "sp0"
  refine r_ord S₂ fun t₃ s₃ S₃ => ?_
  walk_at "ci"
  rename_i t₄ s₄ S₄
  walk_at "sp0"
  refine r_newtuple S₄ (by simp) fun ta s₅ S₅ => ?_
  walk_at "more"
  with_reducible refine Tuple_ ?_
  walk_at "ci"
  rename_i t₆ s₆ S₆
  walk_at "ci"
  rename_i t₇ s₇ S₇
  walk_at "sp0"
  refine r_newtuple S₇ (by simp) fun tb s₈ S₈ => ?_
  walk_at "more"
  with_reducible refine Tuple_ ?_
  walk_at "ci"
  rename_i t₉ s₉ S₉
  walk_at "ci"
  rename_i t₁₀ s₁₀ S₁₀
  walk_at "sp0"
  refine r_newtuple S₁₀ (by simp) fun tc s₁₁ S₁₁ => ?_
  walk_at "more"
  with_reducible refine Tuple_ ?_
  walk_at "more"
  walk_at "call"
  walk_at "bi ord"
  refine PyProof.Rows.callWith_builtin1 ?_
  walk_at "more"
  with_reducible refine Subscript_ ?_
  refine r_cell (by kernel_rfl) (hpc S₁₁ (fun _ hp => .tail _ (.tail _ (.tail _ hp)))) ?_ (by kernel_rfl) (by kernel_rfl) (by kernel_rfl)
  refine r_int S₁₁ fun t₁₂ s₁₂ S₁₂ => ?_
  refine item_tupleL (j := 1) (hpt S₁₂ (fun _ hp => .tail _ (.tail _ (.tail _ hp)))) (by decide) (by decide) (by rfl) rfl ?_
  walk_at "sp0"
  refine r_ord S₁₂ fun t₁₃ s₁₃ S₁₃ => ?_
  walk_at "ci"
  rename_i t₁₄ s₁₄ S₁₄
  walk_at "sp0"
  refine r_newtuple S₁₄ (by simp) fun te s₁₅ S₁₅ => ?_
  walk_at "sp0"
  refine r_newlist S₁₅ (by simp) fun ls s₁₆ S₁₆ => ?_
  obtain ⟨N, S₁₇, hN, hls, hit⟩ : ∃ N, St s₀ L m N s₁₆ ∧ (∀ p ∈ news, p ∈ N) ∧ (ls, lO [Value.ref ta, Value.ref tb, Value.ref tc, Value.ref te] 0) ∈ N ∧ ∀ (j : Nat) (v : Value), [Value.ref ta, Value.ref tb, Value.ref tc, Value.ref te][j]? = some v →
      ∃ (t : Addr) (x : Int) (tx : Tok) (b : Int) (tb : Tok), v = Value.ref t ∧ (t, tO [Value.int x tx, Value.int b tb]) ∈ N ∧ decide (x < 256) = (b == 0) ∧ decide (256 ≤ x) = (b == 1) := by
    refine ⟨_, S₁₆, fun p hp => .tail _ (.tail _ (.tail _ (.tail _ (.tail _ hp)))), .head _, ?_⟩
    intro j v hv
    match j with
    | 0 => cases hv; exact ⟨_, _, _, _, _, rfl, .tail _ (.tail _ (.tail _ (.tail _ (.head _)))), by rw [decide_eq_true (by omega)]; rfl, by rw [decide_eq_false (by omega)]; rfl⟩
    | 1 => cases hv; exact ⟨_, _, _, _, _, rfl, .tail _ (.tail _ (.tail _ (.head _))), rfl, rfl⟩
    | 2 => cases hv; exact ⟨_, _, _, _, _, rfl, .tail _ (.tail _ (.head _)), rfl, rfl⟩
    | 3 => cases hv; exact ⟨_, _, _, _, _, rfl, .tail _ (.head _), by rw [decide_eq_false (by omega)]; rfl, by rw [decide_eq_true (by omega)]; rfl⟩
    | n + 4 => simp at hv
  refine ⟨ls, _, 0, m, N, fun j m' nw' => nw' = N ∧ m' "first" = m "first" ∧ m' "second" = m "second" ∧ m' "both" = m "both", rfl, hls, S₁₇, ⟨rfl, rfl, rfl, rfl⟩, ?_, ?_, ?_⟩
  · rintro j m' nw' ⟨rfl, _⟩
    exact hls
  · rintro I j v o m' nw' s' hP ⟨rfl, e1, e2, e3⟩ S'
    obtain ⟨t, x, tx, b, tb, rfl, hmem, q1, q2⟩ := hit j v hP
    refine r_unpackTo S' hh (S'.mem (.tail _ hmem)) (by kernel_rfl) (by kernel_rfl) fun s₂₁ S₂₁ => ?_
    refine assignInOrder_cons ?_
    refine PyProof.Rows.assign_Name ?_
    walk_at "st"
    rename_i s₂₂ S₂₂
    refine assignInOrder_cons ?_
    refine PyProof.Rows.assign_Name ?_
    walk_at "st"
    rename_i s₂₃ S₂₃
    refine assignInOrder_nil ?_
    refine wpAny_execs_cons ?_
    refine wpAny_If ?_
    refine isTrue_or ?_
    refine wpAny_isTrue_Compare1 ?_
    walk_at "call"
    walk_at "gl"
    refine r_callfn F1 ?_ nofun
    walk_at "more"
    walk_at "ld"
    walk_at "sp0"
    refine ⟨fun o e => S₂₃.base e, ?_⟩
    refine c_ISTERMINAL (R.less (by decide)) (G.keeps S₂₃.fr.keep) (F1.keeps S₂₃.fr.keep) fun s₂₄ e₂₄ => ?_
    have S₂₄ := S₂₃.step e₂₄
    refine wpAny_Compare1 ?_
    walk_at "ld"
    refine r_int S₂₄ fun t₂₅ s₂₅ S₂₅ => ?_
    refine eq_int ?_
    refine wpAny_isNot_plain rfl ?_
    refine wpAny_truthy_bool ?_
    rw [q1, beq_self_eq_true, Bool.not_true, if_neg (by decide)]
    refine isTrue_or ?_
    refine wpAny_isTrue_Compare1 ?_
    walk_at "call"
    walk_at "gl"
    refine r_callfn F2 ?_ nofun
    walk_at "more"
    walk_at "ld"
    walk_at "sp0"
    refine ⟨fun o e => S₂₅.base e, ?_⟩
    refine c_ISNONTERMINAL (R.less (by decide)) (G.keeps S₂₅.fr.keep) (F2.keeps S₂₅.fr.keep) fun s₂₆ e₂₆ => ?_
    have S₂₆ := S₂₅.step e₂₆
    refine wpAny_Compare1 ?_
    walk_at "ld"
    refine r_int S₂₆ fun t₂₇ s₂₇ S₂₇ => ?_
    refine eq_int ?_
    refine wpAny_isNot_plain rfl ?_
    refine wpAny_truthy_bool ?_
    rw [q2, beq_self_eq_true, Bool.not_true, if_neg (by decide)]
    refine isTrue_or_nil ?_
    rw [if_neg (by decide)]
    refine wpAny_execs_nil ?_
    refine wpAny_execs_nil ?_
    exact ⟨_, _, S₂₇, rfl, e1, e2, e3⟩
  rintro m' nw' s' ⟨rfl, e1, e2, e3⟩ S'
  have W' : LawA d L m' nw' := W.mono hN e1 e2 e3
  -- size
  walk_at "ec"
  walk_at "as"
  with_reducible refine wpAny_BinOp ?_
  refine r_int S' fun t₃₁ s₃₁ S₃₁ => ?_
  with_reducible refine wpAny_BinOp ?_
  with_reducible refine wpAny_BinOp ?_
  with_reducible refine Subscript_ ?_
  refine r_cell (by kernel_rfl) ⟨d.o3, S₃₁.mem W'.cells.1, W'.cells.2.1⟩ ?_ (by kernel_rfl) (by kernel_rfl) (by kernel_rfl)
  refine r_int S₃₁ fun t₃₂ s₃₂ S₃₂ => ?_
  refine r_item_ints (lO_list (S₃₂.mem W'.cells.2.2.1)) W'.cells.2.2.2.1 (by decide) (by rw [W'.cells.2.2.2.2.1]; decide) (by rw [W'.cells.2.2.2.2.1]; decide) fun u₃₂ => ?_
  refine r_int S₃₂ fun t₃₃ s₃₃ S₃₃ => ?_
  refine r_fdiv S₃₃ (by decide) (pylong_small (by decide)) fun t₃₄ s₃₄ S₃₄ => ?_
  refine r_int S₃₄ fun t₃₅ s₃₅ S₃₅ => ?_
  refine r_mod S₃₅ (by decide) fun t₃₆ s₃₆ S₃₆ => ?_
  refine r_add S₃₆ fun t₃₇ s₃₇ S₃₇ => ?_
  have hsz : (4 : Int) + ((d.cs.getD (0 : Int).toNat 0).fdiv 7).fmod 2 = (sizeOf' d : Int) := by
    have := fmod_lt (i := (d.cs.getD 0 0).fdiv 7) (n := 2) (by decide)
    unfold sizeOf'
    show (4 : Int) + ((d.cs.getD 0 0).fdiv 7).fmod 2 = _
    omega
  rw [hsz]
  refine r_storecell_m S₃₇ (hN _ h5) hd5 (fun o5' ex s₃₈ h5' hm5 hk S₃₈ => ?_) (by kernel_rfl) (by kernel_rfl) (by kernel_rfl)
  have W₃ : LawA d L m' ex := ⟨W'.hi, ⟨hk.ne _ W'.cells.1 (Nat.ne_of_lt (Nat.lt_succ_of_lt (Nat.lt_succ_self _))), W'.cells.2.1, hk.l _ _ _ W'.cells.2.2.1, W'.cells.2.2.2⟩, ⟨W'.first.1, hk.l _ _ _ W'.first.2.1, W'.first.2.2⟩, ⟨W'.second.1, hk.l _ _ _ W'.second.2.1, W'.second.2.2⟩, W'.both, ⟨hk.ne _ W'.pair.1 (Nat.ne_of_lt (Nat.lt_succ_self _)), W'.pair.2.1, hk.t _ _ W'.pair.2.2⟩, W'.ieq⟩
  -- rest
  walk_at "ec"
  walk_at "as"
  with_reducible refine wpAny_BinOp ?_
  with_reducible refine Subscript_ ?_
  refine r_cell (by kernel_rfl) ⟨d.o3, S₃₈.mem W₃.cells.1, W₃.cells.2.1⟩ ?_ (by kernel_rfl) (by kernel_rfl) (by kernel_rfl)
  refine r_int S₃₈ fun t₄₁ s₄₁ S₄₁ => ?_
  refine r_item_ints (lO_list (S₄₁.mem W₃.cells.2.2.1)) W₃.cells.2.2.2.1 (by decide) (by rw [W₃.cells.2.2.2.2.1]; decide) (by rw [W₃.cells.2.2.2.2.1]; decide) fun u₄₁ => ?_
  with_reducible refine wpAny_BinOp ?_
  refine r_cell (by kernel_rfl) ⟨o5', S₄₁.mem hm5, h5'⟩ ?_ (by kernel_rfl) (by kernel_rfl) (by kernel_rfl)
  refine r_int S₄₁ fun t₄₂ s₄₂ S₄₂ => ?_
  refine r_add S₄₂ fun t₄₃ s₄₃ S₄₃ => ?_
  refine r_mod S₄₃ (by have := size_cases d; omega) fun t₄₄ s₄₄ S₄₄ => ?_
  walk_at "st"
  rename_i s₄₅ S₄₅
  -- code
  walk_at "ec"
  walk_at "as"
  with_reducible refine List_ ?_
  walk_at "sp0"
  refine r_newlist S₄₅ (by simp) fun ac s₄₆ S₄₆ => ?_
  walk_at "st"
  rename_i s₄₇ S₄₇
  refine h _ ex s₄₇ o5' _ t₄₄ ac ?_ hm5 h5' ?_ ?_ (fun o6 h6 => hk.ne _ (hN _ h6) (Nat.ne_of_gt (Nat.lt_succ_self _))) S₄₇
  · exact W₃.mono (fun _ hp => hp) rfl rfl rfl
  · rfl
  · rfl
end
end partMine24
section partMine25
set_option autoImplicit false
def wd (i : Nat) (bs : List Int) : Str := wordOf ⟨#[c0T.getD i 0]⟩ ⟨#[c1T.getD i 0]⟩ bs
def inCode (n : Nat) (r : Int) (row : List Int) : Bool := ((placesOf row n).sum - r).fmod (n + 1) == 0
def codeL (n : Nat) (r : Int) : List (List Int) := (rowsOf n).filter (inCode n r)
theorem glued_singles : ∀ (cs : List Nat) (acc : Array Nat), (cs.map fun c => (⟨#[c]⟩ : Str)).foldl (fun a p => a ++ (Str.ofString "").cps ++ p.cps) acc = acc ++ cs.toArray
  | [], acc => by simp
  | c :: cs, acc => by
    rw [List.map_cons, List.foldl_cons, glued_singles cs]
    have : (Str.ofString "").cps = #[] := rfl
    rw [this]; simp
theorem word_cps (c0 c1 : Nat) : ∀ bs : List Int, wordOf ⟨#[c0]⟩ ⟨#[c1]⟩ bs = ⟨(bs.map fun b => if b = 0 then c0 else c1).toArray⟩
  | [] => rfl
  | b :: bs => by
    unfold wordOf
    have e : (b :: bs).map (ltr ⟨#[c0]⟩ ⟨#[c1]⟩) = ((b :: bs).map fun b => if b = 0 then c0 else c1).map fun c => (⟨#[c]⟩ : Str) := by
      rw [List.map_map]
      refine List.map_congr_left fun x _ => ?_
      simp only [ltr, Function.comp]
      split <;> rfl
    rw [e]
    unfold Txt.join Builtin.Str.glued
    simp only [List.map_cons, List.drop_succ_cons, List.drop_zero, List.headD_cons]
    rw [glued_singles]
    simp
section
variable {w : World} {A : Around} {E : Value → Shared → Prop} {s₀ s : Shared} {L : Addr} {m : Str → Option Value} {news ex : Nw} {env : Env} {mg mb : Str → Option Value}
theorem KeepsNw.rfl' {c : Addr} : KeepsNw c ex ex := ⟨fun _ h _ => h, fun _ _ _ h => h, fun _ _ h => h⟩
theorem KeepsNw.trans {c : Addr} {a b e : Nw} (x : KeepsNw c a b) (y : KeepsNw c b e) : KeepsNw c a e := ⟨fun p h q => y.ne p (x.ne p h q) q, fun _ _ _ h => y.l _ _ _ (x.l _ _ _ h), fun _ _ h => y.t _ _ (x.t _ _ h)⟩
theorem KeepsNw.of_sub {c : Addr} {a b : Nw} (h : ∀ p ∈ a, p ∈ b) : KeepsNw c a b := ⟨fun p hp _ => h p hp, fun _ _ _ hp => h _ hp, fun _ _ hp => h _ hp⟩
theorem LawA.keeps {d : LD} {ex' : Nw} {m' : Str → Option Value} (W : LawA d L m ex) (hk : KeepsNw (L + 1 + 1 + 1 + 1 + 1 + 1) ex ex') (h1 : m' "first" = m "first") (h2 : m' "second" = m "second") (h3 : m' "both" = m "both") : LawA d L m' ex' :=
  ⟨W.hi, ⟨hk.ne _ W.cells.1 (Nat.ne_of_lt (Nat.lt_succ_of_lt (Nat.lt_succ_of_lt (Nat.lt_succ_self _)))), W.cells.2.1, hk.l _ _ _ W.cells.2.2.1, W.cells.2.2.2⟩, ⟨h1 ▸ W.first.1, hk.l _ _ _ W.first.2.1, W.first.2.2⟩, ⟨h2 ▸ W.second.1, hk.l _ _ _ W.second.2.1, W.second.2.2⟩, h3 ▸ W.both, ⟨hk.ne _ W.pair.1 (Nat.ne_of_lt (Nat.lt_succ_of_lt (Nat.lt_succ_self _))), W.pair.2.1, hk.t _ _ W.pair.2.2⟩, W.ieq⟩
theorem r_storecell_p {x : Str} {v : Value} {c : Addr} {o : Obj} {v₀ : Option Value} {Q : Unit → Shared → Prop} (pre : Nw) (S : St s₀ L m (pre ++ ex) s) (hm : (c, o) ∈ ex) (ho : o.data = .cell v₀)
    (h : ∀ o' ex' s', o'.data = .cell (some v) → (c, o') ∈ ex' → KeepsNw c ex ex' → St s₀ L m (pre ++ ex') s' → Q () s')
    (hk : env.scope.kind = .function) (hl : env.kindOf x = some .cell) (hc : env.cells.lookup x = some c) :
    wpAny (model P0 w) A (storeName env x v) Q E s := by
  obtain ⟨i, hi⟩ := List.getElem?_of_mem hm
  obtain ⟨hil, hie⟩ := List.getElem?_eq_some_iff.mp hi
  refine r_storecell_i (pre.length + i) S (by rw [List.getElem?_append_right (Nat.le_add_right ..)]; simpa using hi) ho (fun o' s' ho' S' => ?_) hk hl hc
  rw [List.set_append_right _ _ (Nat.le_add_right ..), Nat.add_sub_cancel_left] at S'
  have key : ∀ p ∈ ex, p.1 ≠ c → p ∈ ex.set i (c, o') := by
    intro p hp hne
    obtain ⟨j, hj⟩ := List.getElem?_of_mem hp
    have hij : i ≠ j := by rintro rfl; rw [hi] at hj; cases hj; exact hne rfl
    exact List.mem_of_getElem? (i := j) (by rw [List.getElem?_set, if_neg hij]; exact hj)
  have uq : ∀ p ∈ ex, p.1 = c → p.2 = o := by
    intro p hp hpc
    have e1 := (S.nw p (List.mem_append_right _ hp)).1
    have e2 := S.mem (List.mem_append_right _ hm)
    rw [hpc, e2] at e1
    exact (Option.some.inj e1).symm
  refine h o' _ s' ho' (List.mem_of_getElem? (i := i) (by rw [List.getElem?_set, if_pos rfl, if_pos hil])) ⟨key, fun a vs k hp => key _ hp fun q => ?_, fun a vs hp => key _ hp fun q => ?_⟩ S'
  · have := uq _ hp q; rw [← this] at ho; cases ho
  · have := uq _ hp q; rw [← this] at ho; cases ho
set_option maxHeartbeats 1000000 in
theorem law_partC {d : LD} {a ac : Addr} {cd : Value} {o5 o6 : Obj} {tn tr : Tok} {Q : Flow → Shared → Prop} (R : Room A 3) (G : Gl w mg mb s₀.heap) (S : St s₀ L m ((ac, lO [] 0) :: ex) s) (W : LawA d L m ex) (h5 : (L + 1 + 1 + 1 + 1 + 1, o5) ∈ ex) (hd5 : o5.data = .cell (some (.int (sizeOf' d) tn)))
    (h6 : (L + 1 + 1 + 1 + 1 + 1 + 1, o6) ∈ ex) (hd6 : o6.data = .cell none) (hre : m "rest" = some (.int (restOf d) tr)) (hco : m "code" = some (.ref ac))
    (h : ∀ m' ex' s' l k o6' v6', (L + 1 + 1 + 1 + 1 + 1 + 1, o6') ∈ ex' → o6'.data = .cell v6' → LawA d L m' ex' → (L + 1 + 1 + 1 + 1 + 1, o5) ∈ ex' → m' "rest" = some (.int (restOf d) tr) → m' "code" = some (.ref ac) → (ac, lO (strValues l) k) ∈ ex' → l.map (·.1) = (codeL (sizeOf' d) (restOf d)).map (wd d.i) →
      St s₀ L m' ex' s' → wpAny (model P0 w) A (execs ((D 24).body.drop 9) (lawE L a cd)) Q E s') :
    wpAny (model P0 w) A (execs ((D 24).body.drop 8) (lawE L a cd)) Q E s := by
  have hh := R.handled
  obtain ⟨hc0, hc1⟩ := letters_fact d.i W.hi
  have hn5 : sizeOf' d ≤ 5 := by have := size_cases d; omega
  generalize hn : sizeOf' d = n at hd5 hn5 h
  generalize hr : restOf d = r at hre h
  obtain ⟨f1, hf1, F1⟩ := G.at 18 (by decide) "_law_rows" (by kernel_rfl)
  obtain ⟨f2, hf2, F2⟩ := G.at 19 (by decide) "_law_word" (by kernel_rfl)
  obtain ⟨f3, hf3, F3⟩ := G.at 12 (by decide) "ISNONTERMINAL" (by kernel_rfl)
  obtain ⟨f4, hf4, F4⟩ := G.at 13 (by decide) "ISEOF" (by kernel_rfl)
  refine wpAny_execs_cons ?_
  walk_at "for"
  walk_at "call"
  walk_at "gl"
  refine r_callfn F1 ?_ nofun
  walk_at "more"
  refine r_cell (by kernel_rfl) ⟨o5, S.mem (.tail _ h5), hd5⟩ ?_ (by kernel_rfl) (by kernel_rfl) (by kernel_rfl)
  walk_at "sp0"
  refine ⟨fun o e => S.base e, ?_⟩
  refine c_rows R (G.keeps S.fr.keep) (F1.keeps S.fr.keep) (by omega) fun Dr vs k nw s₁ Md hrows => ?_
  have S₁ := S.join Md
  have S₁ : St s₀ L m ((ac, lO [] 0) :: ((Dr, lO vs k) :: nw ++ ex)) s₁ := S₁.perm (by exact (List.perm_middle (l₁ := (Dr, lO vs k) :: nw)).symm)
  have hvl := hrows.length
  have hrl := rowsOf_len n
  generalize hN : (Dr, lO vs k) :: nw ++ ex = N at S₁
  have hNx : ∀ p ∈ ex, p ∈ N := fun p hp => hN ▸ List.mem_append_right _ hp
  have hNn : ∀ p ∈ (Dr, lO vs k) :: nw, p ∈ N := fun p hp => hN ▸ List.mem_append_left _ hp
  refine ⟨_, _, m, _, fun j m' nw' => ∃ l k o6 v6 ex', nw' = (ac, lO (strValues l) k) :: ex' ∧ KeepsNw (L + 1 + 1 + 1 + 1 + 1 + 1) N ex' ∧ (L + 1 + 1 + 1 + 1 + 1 + 1, o6) ∈ ex' ∧ o6.data = .cell v6 ∧ l.map (·.1) = (((rowsOf n).take j).filter (inCode n r)).map (wd d.i) ∧
      m' "first" = m "first" ∧ m' "second" = m "second" ∧ m' "both" = m "both" ∧ m' "rest" = m "rest" ∧ m' "code" = m "code", src_list hh (lO_list (S₁.mem (.tail _ (hNn _ (.head _))))), S₁, ⟨[], 0, o6, none, N, rfl, .rfl', hNx _ h6, hd6, rfl, rfl, rfl, rfl, rfl, rfl⟩, ?_, ?_, ?_⟩
  · rintro j m' nw' ⟨l, k', o6', v6, ex', rfl, hk, _⟩ b hb o ho
    cases hb
    rw [S₁.mem (.tail _ (hNn _ (.head _)))] at ho; cases ho
    exact .inr (.tail _ (hk.l _ _ _ (hNn _ (.head _))))
  · rintro I j v o m' nw' s' hj hP ⟨l, k', o6', v6, ex', rfl, hk, h6', hd6', hlm, e1, e2, e3, e4, e5⟩ S'
    obtain ⟨row, hrow, ar, ws, kk, rfl, hmem, hints⟩ := hrows.at (by simpa using hP)
    have hrm := rowsOf_mem n row (List.mem_of_getElem? hrow)
    have hL : l.length ≤ 32 := by
      have q1 := congrArg List.length hlm
      rw [List.length_map, List.length_map] at q1
      have q2 := List.length_filter_le (inCode n r) ((rowsOf n).take j)
      have q3 : ((rowsOf n).take j).length ≤ (rowsOf n).length := List.length_take_le' ..
      rw [hrl] at q3
      have q4 : 2 ^ n ≤ 32 := by
        have : n = 4 ∨ n = 5 := by have := size_cases d; omega
        rcases this with rfl | rfl <;> decide
      omega
    have W' : LawA d L m' ex' := W.keeps ((KeepsNw.of_sub hNx).trans hk) e1 e2 e3
    have h5' : (L + 1 + 1 + 1 + 1 + 1, o5) ∈ ex' := hk.ne _ (hNx _ h5) (Nat.ne_of_lt (Nat.lt_succ_self _))
    have hmem' : (ar, lO ws kk) ∈ ex' := hk.l _ _ _ (hNn _ (.tail _ hmem))
    with_reducible refine PyProof.Rows.assign_Name ?_
    walk_at "st"
    rename_i s₂ S₂
    refine wpAny_execs_cons ?_
    walk_at "as"
    walk_at "call"
    walk_at "gl"
    refine r_callfn F2 ?_ nofun
    walk_at "more"
    refine r_cell (by kernel_rfl) ⟨d.o4, S₂.mem (.tail _ (.tail _ W'.pair.1)), W'.pair.2.1⟩ ?_ (by kernel_rfl) (by kernel_rfl) (by kernel_rfl)
    walk_at "more"
    walk_at "ld"
    walk_at "sp0"
    refine ⟨fun o e => S₂.base e, ?_⟩
    refine c_word (R.less (by decide)) (G.keeps S₂.fr.keep) (F2.keeps S₂.fr.keep) (S₂.mem (.tail _ (.tail _ W'.pair.2.2))) (lO_list (S₂.mem (.tail _ (.tail _ hmem')))) hints hrm.2 (by omega) (by show 1 ≤ 100; decide) (by show 1 ≤ 100; decide) fun tw s₃ e₃ => ?_
    have S₃ := S₂.step e₃
    refine r_storecell_p [(I, o), (ac, lO (strValues l) k')] S₃ h6' hd6' (fun o6'' ex2 s₄ hd6'' h6'' hk2 S₄ => ?_) (by kernel_rfl) (by kernel_rfl) (by kernel_rfl)
    have h5'' : (L + 1 + 1 + 1 + 1 + 1, o5) ∈ ex2 := hk2.ne _ h5' (Nat.ne_of_lt (Nat.lt_succ_self _))
    -- weight
    walk_at "ec"
    walk_at "as"
    walk_at "call"
    walk_at "bi sum"
    refine PyProof.Rows.callWith_builtin1 ?_
    walk_at "more"
    refine r_comp (cl := [("word", L + 1 + 1 + 1 + 1 + 1 + 1)]) (by kernel_rfl) (by decide +kernel) (by kernel_rfl) (by decide +kernel) ?_
    walk_at "call"
    walk_at "bi range"
    refine PyProof.Rows.callWith_type1 ?_
    walk_at "more"
    refine r_cell (by kernel_rfl) ⟨o5, S₄.mem (.tail _ (.tail _ h5'')), hd5⟩ ?_ (by kernel_rfl) (by kernel_rfl) (by kernel_rfl)
    walk_at "sp0"
    refine r_range1 S₄ fun rg u v s₆ S₆ => ?_
    have G₆ := G.keeps S₆.fr.keep
    have F3' := F3.keeps S₆.fr.keep
    refine ⟨_, _, fun j ys m' nw' => nw' = [] ∧ IntsAre ys (placesOf row j), src_range hh (S₆.mem (.head _)) (by omega), by rw [sizeLine_eq]; omega, ⟨rfl, .nil⟩, ?_, ?_, ?_⟩
    · rintro j ys m' nw' ⟨_, hc⟩
      have h1 := ints_len hc
      unfold placesOf at h1
      rw [List.length_map] at h1
      have h2 := List.length_filter_le (fun k => row.getD k 0 == 1) (List.range j)
      rw [List.length_range] at h2
      omega
    · rintro C Dd j2 k2 v2 ys m3 nw3 I2 oo s7 hj2 ⟨tv, rfl⟩ ⟨rfl, hc⟩ S7
      have hj3 : j2 < row.length := by rw [hrm.1]; exact hj2
      have hbj : row[j2]? = some (row[j2]'hj3) := List.getElem?_eq_getElem _
      have hbb := hrm.2 _ (List.getElem_mem hj3)
      generalize row[j2]'hj3 = b at hbj hbb
      with_reducible refine PyProof.Rows.assign_Name ?_
      walk_at "st"
      rename_i s₈ S₈
      refine wpAny_tests_one ?_
      refine isTrue_plain ?_
      walk_at "call"
      walk_at "gl"
      refine r_callfn F3' ?_ nofun
      walk_at "more"
      walk_at "call"
      walk_at "bi ord"
      refine PyProof.Rows.callWith_builtin1 ?_
      walk_at "more"
      with_reducible refine Subscript_ ?_
      refine r_cell (by kernel_rfl) ⟨o6'', S₈.base (S₆.mem (.tail _ (.tail _ (.tail _ h6'')))), hd6''⟩ ?_ (by kernel_rfl) (by kernel_rfl) (by kernel_rfl)
      walk_at "ld"
      refine r_itemstr S₈ (c := if b = 0 then c0T.getD d.i 0 else c1T.getD d.i 0) (by omega) (by omega) (by rw [word_cps]; simp [hbj]) fun t₉ s₉ S₉ => ?_
      walk_at "sp0"
      refine r_ord S₉ fun t₁₀ s₁₀ S₁₀ => ?_
      walk_at "sp0"
      refine ⟨fun o e => S₁₀.base e, ?_⟩
      refine c_ISNONTERMINAL (R.less (by decide)) (G₆.keeps S₁₀.fr.keep) (F3'.keeps S₁₀.fr.keep) fun s₁₁ e₁₁ => ?_
      have S₁₁ := S₁₀.step e₁₁
      refine wpAny_truthy_bool ?_
      have hf : placesOf row (j2 + 1) = placesOf row j2 ++ (if (b == 1) = true then [(j2 : Int) + 1] else []) := by
        unfold placesOf
        rw [List.range_succ, List.filter_append, List.map_append]
        simp only [List.filter_cons, List.filter_nil, List.getD_eq_getElem?_getD, hbj, Option.getD_some]
        split <;> rfl
      have hq : decide ((256 : Int) ≤ ((if b = 0 then c0T.getD d.i 0 else c1T.getD d.i 0 : Nat) : Int)) = (b == 1) := by
        rcases hbb with rfl | rfl
        · rw [if_pos rfl]; exact decide_eq_false (by omega)
        · rw [if_neg (by decide)]; exact decide_eq_true (by omega)
      rw [hq]
      by_cases q : (b == 1) = true
      · rw [if_pos q] at hf ⊢
        with_reducible refine wpAny_BinOp ?_
        walk_at "ld"
        refine r_int S₁₁ fun t₁₂ s₁₂ S₁₂ => ?_
        refine r_add S₁₂ fun t₁₃ s₁₃ S₁₃ => ?_
        exact ⟨_, _, S₁₃, rfl, by rw [hf]; exact ints_app hc (.cons _ _ .nil)⟩
      · rw [if_neg q] at hf ⊢
        exact ⟨_, _, S₁₁, rfl, by rw [hf, List.append_nil]; exact hc⟩
    rintro Dd2 k2 ys2 m3 nw3 s₇ ⟨rfl, hc2⟩ Md2
    have S₇ := S₆.join Md2
    walk_at "sp0"
    have hpl := ints_len hc2
    refine r_sum (val := fun i => (placesOf row n).getD i 0) S₇ (src_list (by exact hh) (lO_list (S₇.mem (.head _)))) (fun i v hP => ?_) fun t₈ s₈ S₈ => ?_
    · have hP' : ys2[i]? = some v := by simpa using hP
      obtain ⟨n, tn, hn, rfl⟩ := ints_at hc2 hP'
      exact ⟨tn, by simp [List.getD_eq_getElem?_getD, hn]⟩
    rw [show ys2.toArray.size = (placesOf row n).length from by rw [List.size_toArray, hpl], preSum_getD _ _ (Nat.le_refl _), List.take_length]
    have S₈ : St s₀ L _ ((I, o) :: (ac, lO (strValues l) k') :: ex2) s₈ := S₈.weaken (by exact List.Sublist.cons _ (List.Sublist.cons _ (List.Sublist.refl _)))
    walk_at "st"
    rename_i s₉ S₉
    have W₂ : LawA d L m' ex2 := W'.keeps hk2 rfl rfl rfl
    have call_ : ∀ {s10 : Shared} {m10 : Str → Option Value} {Q' : Value → Shared → Prop} {tw : Tok} {pA pB pC pD pE pF pG pH pI : Pos}, St s₀ L m10 ((I, o) :: (ac, lO (strValues l) k') :: ex2) s10 → m10 "weight" = some (.int (placesOf row n).sum tw) → m10 "rest" = some (.int r tr) →
        (∀ s11, St s₀ L m10 ((I, o) :: (ac, lO (strValues l) k') :: ex2) s11 → Q' (.bool (inCode n r row)) s11) →
        wpAny (model P0 w) A (eval (.Call (.Name "ISEOF" pA) [.BinOp (.BinOp (.Name "weight" pB) .Sub (.Name "rest" pC) pD) .Mod (.BinOp (.Name "size" pE) .Add (.Constant (.int 1) 0 pF) pG) pH] [] pI) (lawE L a cd)) Q' (fun _ _ => False) s10 := by
      intro s10 m10 Q' tw pA pB pC pD pE pF pG pH pI S10 hw hr' hq
      walk_at "call"
      walk_at "gl"
      refine r_callfn F4 ?_ nofun
      walk_at "more"
      with_reducible refine wpAny_BinOp ?_
      with_reducible refine wpAny_BinOp ?_
      refine r_local S10 (v := .int (placesOf row n).sum tw) (by exact hw) ?_ (by kernel_rfl) (by kernel_rfl) (by kernel_rfl) (by kernel_rfl)
      refine r_local S10 (v := .int r tr) (by exact hr') ?_ (by kernel_rfl) (by kernel_rfl) (by kernel_rfl) (by kernel_rfl)
      refine r_sub S10 fun t1 s1 S1 => ?_
      with_reducible refine wpAny_BinOp ?_
      refine r_cell (by kernel_rfl) ⟨o5, S1.mem (.tail _ (.tail _ h5'')), hd5⟩ ?_ (by kernel_rfl) (by kernel_rfl) (by kernel_rfl)
      refine r_int S1 fun t2 s2 S2 => ?_
      refine r_add S2 fun t3 s3 S3 => ?_
      refine r_mod S3 (by omega) fun t4 s4 S4 => ?_
      walk_at "sp0"
      refine ⟨fun o e => S4.base e, ?_⟩
      exact c_ISEOF (R.less (by decide)) (G.keeps S4.fr.keep) (F4.keeps S4.fr.keep) fun s5 e5 => hq s5 (S4.step e5)
    have hsnoc : (((rowsOf n).take (j + 1)).filter (inCode n r)).map (wd d.i) = (((rowsOf n).take j).filter (inCode n r)).map (wd d.i) ++ (if inCode n r row = true then [wd d.i row] else []) := by
      rw [filter_take_succ (p := inCode n r) hrow, List.map_append]
      split <;> rfl
    walk_at "ec"
    walk_at "if"
    refine call_ S₉ rfl (by exact e4.trans hre) fun s₁₀ S₁₀ => ?_
    refine wpAny_Constant_bool ?_
    refine is_bool ?_
    refine wpAny_truthy_bool ?_
    by_cases q : inCode n r row = true
    · rw [q] at hsnoc ⊢
      rw [if_pos (by decide)]
      rw [if_pos rfl] at hsnoc
      refine wpAny_execs_cons ?_
      refine wpAny_Expr_any ?_ (by kernel_rfl) (by kernel_rfl)
      refine MethodCall_ ?_
      refine r_local S₁₀ (v := .ref ac) (by exact e5.trans hco) ?_ (by kernel_rfl) (by kernel_rfl) (by kernel_rfl) (by kernel_rfl)
      refine getMethod_list_of F.slot_list_append F.type_list_append (lO_list (S₁₀.mem (.tail _ (.head _)))) ⟨_, S₁₀.mem (.tail _ (.head _)), rfl⟩ ?_
      refine callWith_method1 ?_
      walk_at "more"
      refine r_cell (by kernel_rfl) ⟨o6'', S₁₀.mem (.tail _ (.tail _ h6'')), hd6''⟩ ?_ (by kernel_rfl) (by kernel_rfl) (by kernel_rfl)
      walk_at "sp0"
      refine r_append 1 S₁₀ rfl (by rw [strValues_list, sizeLine_eq]; omega) fun k3 s₁₁ S₁₁ => ?_
      refine wpAny_execs_nil ?_
      refine wpAny_execs_nil ?_
      rw [strValues_snoc] at S₁₁
      exact ⟨_, _, S₁₁, _, k3, o6'', _, ex2, rfl, hk.trans hk2, h6'', hd6'', by rw [hsnoc, List.map_append, hlm]; rfl, e1, e2, e3, e4, e5⟩
    · have qf : inCode n r row = false := by simpa using q
      rw [qf] at hsnoc ⊢
      rw [if_neg (by decide)] at hsnoc
      rw [if_neg (by decide)]
      refine wpAny_execs_cons ?_
      walk_at "if"
      refine call_ S₁₀ rfl (by exact e4.trans hre) fun s₁₁ S₁₁ => ?_
      refine wpAny_Constant_bool ?_
      refine wpAny_isNot_plain rfl ?_
      refine wpAny_truthy_bool ?_
      rw [qf]
      rw [if_neg (by decide)]
      refine wpAny_execs_nil ?_
      refine wpAny_execs_nil ?_
      refine wpAny_execs_nil ?_
      exact ⟨_, _, S₁₁, l, k', o6'', _, ex2, rfl, hk.trans hk2, h6'', hd6'', by rw [hsnoc, List.append_nil, hlm], e1, e2, e3, e4, e5⟩
  · rintro m' nw' s' ⟨l, k', o6', v6, ex', rfl, hk, h6', hd6', hlm, e1, e2, e3, e4, e5⟩ S'
    rw [List.size_toArray, hvl, List.take_length] at hlm
    refine h m' _ s' l k' o6' v6 (.tail _ h6') hd6' ((W.keeps ((KeepsNw.of_sub hNx).trans hk) e1 e2 e3).mono (fun _ hp => .tail _ hp) rfl rfl rfl) (.tail _ (hk.ne _ (hNx _ h5) (Nat.ne_of_lt (Nat.lt_succ_self _)))) (e4.trans hre) (e5.trans hco) (.head _) hlm S'
end
end partMine25
section partMine26
set_option autoImplicit false
def fbOf (d : LD) : Int := ((d.cs.getD 1 0).fdiv 6).fmod 2
def rowsL (n : Nat) (fb : Int) : List (List Int) := (rowsOf 3).map fun row => List.replicate (n - 4) fb ++ row
theorem ints_rep (fb : Int) (t : Tok) : ∀ k, IntsAre (List.replicate k [Value.int fb t]).flatten (List.replicate k fb)
  | 0 => .nil
  | k + 1 => by
    rw [List.replicate_succ, List.replicate_succ, List.flatten_cons]
    exact .cons fb t (ints_rep fb t k)
section
variable {w : World} {A : Around} {E : Value → Shared → Prop} {s₀ s : Shared} {L : Addr} {m : Str → Option Value} {news ex : Nw} {env : Env} {mg mb : Str → Option Value}
set_option maxHeartbeats 1000000 in
theorem law_partD {d : LD} {a : Addr} {cd : Value} {o5 : Obj} {tn : Tok} {Q : Flow → Shared → Prop} (R : Room A 3) (G : Gl w mg mb s₀.heap) (S : St s₀ L m ex s) (W : LawA d L m ex) (h5 : (L + 1 + 1 + 1 + 1 + 1, o5) ∈ ex) (hd5 : o5.data = .cell (some (.int (sizeOf' d) tn)))
    (h : ∀ ex' s' Dr ys k, (∀ p ∈ ex, p ∈ ex') → (Dr, lO ys k) ∈ ex' → All2 (RowIn ex') ys (rowsL (sizeOf' d) (fbOf d)) →
      St s₀ L (fun y => if y = "rows" then some (.ref Dr) else m y) ex' s' → wpAny (model P0 w) A (execs ((D 24).body.drop 10) (lawE L a cd)) Q E s') :
    wpAny (model P0 w) A (execs ((D 24).body.drop 9) (lawE L a cd)) Q E s := by
  have hh := R.handled
  have hn := size_cases d
  obtain ⟨f1, hf1, F1⟩ := G.at 18 (by decide) "_law_rows" (by kernel_rfl)
  refine wpAny_execs_cons ?_
  refine r_alc (cl := [("size", L + 1 + 1 + 1 + 1 + 1), ("cells", L + 1 + 1 + 1)]) (L := L) (s₀ := s₀) (by kernel_rfl) (by kernel_rfl) (by kernel_rfl) (by decide +kernel) (by kernel_rfl) (by kernel_rfl) (by kernel_rfl) ?_
  walk_at "call"
  walk_at "gl"
  refine r_callfn F1 ?_ nofun
  walk_at "ci"
  rename_i t₂ s₂ S₂
  walk_at "sp0"
  refine ⟨fun o e => S₂.base e, ?_⟩
  refine c_rows (n := 3) R (G.keeps S₂.fr.keep) (F1.keeps S₂.fr.keep) (by omega) fun Dr vs k nw s₁ Md hrows => ?_
  have S₁ := S₂.join Md
  have hvl := hrows.length
  have hrl := rowsOf_len 3
  refine ⟨_, _, _, S₁, blk_one (fun j ys m' nw' => All2 (RowIn nw') ys (((rowsOf 3).take j).map fun row => List.replicate (sizeOf' d - 4) (fbOf d) ++ row)) (src_list hh (lO_list (S₁.mem (.head _)))) (by rw [List.size_toArray, hvl, hrl, sizeLine_eq]; decide) (by decide +kernel) (by kernel_rfl) .nil ?_ ?_ (by intro _ _; rfl), ?_⟩
  · rintro j ys m' nw' hA
    have h1 := hA.length
    rw [List.length_map] at h1
    have h2 : ((rowsOf 3).take j).length ≤ j := List.length_take_le ..
    omega
  · intro C Dd j k' v ys m' nw' I o s' hj hP hA S'
    obtain ⟨row, hrow, ar, ws, kk, rfl, hmem, hints⟩ := hrows.at (by simpa using hP)
    have hrm := rowsOf_mem 3 row (List.mem_of_getElem? hrow)
    have hwl := ints_len hints
    with_reducible refine PyProof.Rows.assign_Name ?_
    walk_at "st"
    rename_i s₃ S₃
    refine wpAny_tests_nil ?_
    rw [if_pos rfl]
    with_reducible refine wpAny_BinOp ?_
    with_reducible refine wpAny_BinOp ?_
    with_reducible refine List_ ?_
    walk_at "more"
    with_reducible refine wpAny_BinOp ?_
    with_reducible refine wpAny_BinOp ?_
    with_reducible refine Subscript_ ?_
    refine r_cell (by kernel_rfl) ⟨d.o3, S₃.base (S₁.mem (List.mem_append_right _ W.cells.1)), W.cells.2.1⟩ ?_ (by kernel_rfl) (by kernel_rfl) (by kernel_rfl)
    refine r_int S₃ fun t₄ s₄ S₄ => ?_
    refine r_item_ints (lO_list (S₄.base (S₁.mem (List.mem_append_right _ W.cells.2.2.1)))) W.cells.2.2.2.1 (by decide) (by rw [W.cells.2.2.2.2.1]; decide) (by rw [W.cells.2.2.2.2.1]; decide) fun u₄ => ?_
    refine r_int S₄ fun t₅ s₅ S₅ => ?_
    refine r_fdiv S₅ (by decide) (pylong_small (by decide)) fun t₆ s₆ S₆ => ?_
    refine r_int S₆ fun t₇ s₇ S₇ => ?_
    refine r_mod S₇ (by decide) fun t₈ s₈ S₈ => ?_
    walk_at "sp0"
    refine r_newlist S₈ (by simp) fun a1 s₉ S₉ => ?_
    with_reducible refine wpAny_BinOp ?_
    refine r_cell (by kernel_rfl) ⟨o5, S₉.base (S₁.mem (List.mem_append_right _ h5)), hd5⟩ ?_ (by kernel_rfl) (by kernel_rfl) (by kernel_rfl)
    refine r_int S₉ fun t₁₀ s₁₀ S₁₀ => ?_
    refine r_sub S₁₀ fun t₁₁ s₁₁ S₁₁ => ?_
    rw [show ((sizeOf' d : Int) - 4) = ((sizeOf' d - 4 : Nat) : Int) from by omega]
    refine r_mullist S₁₁ (S₁₁.mem (.head _)) nofun (by simp; omega) (by omega) fun a2 s₁₂ S₁₂ => ?_
    walk_at "ld"
    have hml : (List.replicate (sizeOf' d - 4) [Value.int (((d.cs.getD (Int.toNat 1) 0).fdiv 6).fmod 2) t₈]).flatten.length ≤ 1 := by
      rcases hn with q | q <;> rw [q] <;> simp
    refine r_addlist S₁₂ (lO_list (S₁₂.mem (.head _))) (lO_list (S₁₂.base (S₁.mem (List.mem_append_left _ (.tail _ hmem))))) (by rw [hwl, hrm.1]; omega) fun a3 s₁₃ S₁₃ => ?_
    have S₁₄ := (S₁₃.weaken (by exact List.Sublist.cons_cons _ (List.Sublist.cons _ (List.Sublist.cons _ (List.Sublist.refl _))))).to3
    refine ⟨_, _, S₁₄, ?_⟩
    rw [List.take_add_one, hrow, List.map_append]
    refine All2.append (hA.imp fun _ _ x => x.mono fun p hp => .tail _ hp) (.cons ⟨a3, _, _, rfl, .head _, ?_⟩ .nil)
    exact ints_app (ints_rep _ _ _) hints
  · rintro Dd k' ys nw' s' ⟨m', hA⟩ S'
    refine h _ s' Dd ys k' (fun p hp => ?_) ?_ ?_ S'
    · exact List.mem_append_right _ (List.mem_append_right _ hp)
    · exact List.mem_append_left _ (.head _)
    · have e : List.take vs.toArray.size (rowsOf 3) = rowsOf 3 := by rw [List.size_toArray, hvl, List.take_length]
      rw [e] at hA
      exact hA.imp fun _ _ x => x.mono fun p hp => List.mem_append_left _ (.tail _ hp)
end
end partMine26
section partMine27
set_option autoImplicit false
def occL (sub : List Nat) (m hi limit : Nat) : Nat → List Nat → Nat → Nat → Nat → List Nat
  | 0, _, _, _, _ => []
  | f + 1, xs, i, cnt, free => if (Nat.blt cnt limit && Nat.ble free i && Nat.ble (i + m) hi && sub.isPrefixOf xs) = true then i :: occL sub m hi limit f xs.tail (i + 1) (cnt + 1) (i + m) else occL sub m hi limit f xs.tail (i + 1) cnt free
open PySem.Builtin PySem.Builtin.Str PySem.StrLaws in
theorem subAt_prefix (x y : Str) (i : Nat) : subAt x y i = y.cps.toList.isPrefixOf (x.cps.toList.drop i) := by
  unfold subAt
  rw [Bool.eq_iff_iff, List.isPrefixOf_iff_prefix, List.prefix_iff_eq_take, beq_iff_eq, ← Array.toList_inj, Array.toList_extract]
  have : y.length = y.cps.toList.length := by rw [Array.length_toList]; rfl
  simp only [List.extract_eq_take_drop, Nat.add_sub_cancel_left, this]
  exact eq_comm
open PySem.Builtin PySem.Builtin.Str PySem.StrLaws in
theorem occ_fast_aux (x y : Str) (hi limit : Nat) : ∀ (f i : Nat) (found : Array Nat) (free : Nat),
    ((forIn (List.range' i f) (found, free) (occBody x y hi limit) : Id _).run).fst.toList = found.toList ++ occL y.cps.toList y.length hi limit f (x.cps.toList.drop i) i found.size free := by
  intro f
  induction f with
  | zero => intro i found free; simp [occL]
  | succ f ih =>
    intro i found free
    rw [List.range'_succ, List.forIn_cons]
    unfold occBody occL
    have hc : (((found.size < limit ∧ free ≤ i) ∧ i + y.length ≤ hi) ∧ subAt x y i = true) ↔ ((Nat.blt found.size limit && Nat.ble free i && Nat.ble (i + y.length) hi && y.cps.toList.isPrefixOf (x.cps.toList.drop i)) = true) := by
      rw [subAt_prefix]
      simp only [Bool.and_eq_true, Nat.ble_eq, Nat.blt_eq]
    by_cases q : ((found.size < limit ∧ free ≤ i) ∧ i + y.length ≤ hi) ∧ subAt x y i = true
    · rw [if_pos q, if_pos (hc.mp q)]
      have := ih (i + 1) (found.push i) (i + y.length)
      rw [Array.size_push, Array.toList_push, List.append_assoc] at this
      rw [List.tail_drop]
      exact this
    · rw [if_neg q, if_neg (fun z => q (hc.mpr z))]
      have := ih (i + 1) found free
      rw [List.tail_drop]
      exact this
open PySem.Builtin PySem.Builtin.Str PySem.StrLaws in
theorem occ_fast (x y : Str) (lo hi limit : Nat) : occurrences x y lo hi limit = occL y.cps.toList y.length hi limit (hi + 1 - lo) (x.cps.toList.drop lo) lo 0 lo := by
  rw [occ_eq]
  have := occ_fast_aux x y hi limit (hi + 1 - lo) lo #[] lo
  simpa using this

open PySem.Builtin PySem.Builtin.Str
def occS (x y : Str) (lo hi limit : Nat) : List Nat := occL y.cps.toList y.cps.size hi limit (hi + 1 - lo) (x.cps.toList.drop lo) lo 0 lo
theorem occS_eq (x y : Str) (lo hi limit : Nat) : occurrences x y lo hi limit = occS x y lo hi limit := occ_fast x y lo hi limit
def find4S (x y : Str) (i j : Int) : Int := match occS x y (fromIndex x.length i) (min (fromIndex x.length j) x.length) 1 with | k :: _ => (k : Int) | [] => -1
theorem find4S_eq (x y : Str) (i j : Int) : find4 x y i j = find4S x y i j := by
  unfold find4 find4S
  rw [occS_eq]
  all_goals (cases occS x y (fromIndex x.length i) (min (fromIndex x.length j) x.length) 1 <;> rfl)
def splitS (x y : Str) : List Str :=
  if (decide (x.length < y.length) || decide (strKind x < strKind y)) = true then [x] else
  if (occS x y 0 x.length (x.length + 1)).isEmpty = true then [x] else partsBetween x (occS x y 0 x.length (x.length + 1)) y.length
theorem splitS_eq (x y : Str) : Txt.split x y = splitS x y := by unfold Txt.split splitS; rw [occS_eq]
def ellLoopS (got : Str) (e : Int) : List Str → Int → Bool
  | [], _ => true
  | x :: ws, p => if find4S got x p e < 0 then false else ellLoopS got e ws (find4S got x p e + x.length)
theorem ellLoopS_eq (got : Str) (e : Int) : ∀ ws p, ellLoop got e ws p = ellLoopS got e ws p
  | [], _ => rfl
  | x :: ws, p => by unfold ellLoop ellLoopS; rw [find4S_eq, ellLoopS_eq got e ws]
def ellipsisS (got x : Str) (ws : List Str) : Bool := match ellHead got x ws with
  | none => false
  | some (p, ws') => match ellLast got ws' with
    | none => false
    | some (e, ws'') => if e < p then false else ellLoopS got e ws'' p
theorem ellipsisS_eq (got x : Str) (ws : List Str) : ellipsisOf got x ws = ellipsisS got x ws := by
  unfold ellipsisOf ellipsisS
  simp only [ellLoopS_eq]
  all_goals rfl
def containsS (x y : Str) : Bool := !(occS x y 0 x.length 1).isEmpty
theorem containsS_eq (x y : Str) : Txt.contains x y = containsS x y := by unfold Txt.contains containsS; rw [occS_eq]
/-! the plain law: finite -/
def seqS (x y : Str) : Bool := x.cps.toList == y.cps.toList
def dueRow (row : List Int) (r : Int) : List Int := row.take (placeOf row r) ++ [putOf row r] ++ row.drop (placeOf row r)
def gapRow (row : List Int) (r : Int) (gap : Nat) : List Int := row.take gap ++ [putOf row r] ++ row.drop gap
def hyph (x : Str) : Str := "-\n-" ++ Txt.join "-\n-" (signs x) ++ "-\n-"
def dotAt (x : Str) (gap : Nat) : Str := Txt.slice x none (some (gap : Int)) ++ "..." ++ Txt.slice x (some (gap : Int)) none
/-- want splits into these parts -/
def splitIs (want x0 : Str) (ws : List Str) : Bool := containsS want "..." && (splitS want "..." == x0 :: ws) && decide (want.length ≤ 1000) && decide (ws.length ≤ 100) && !ws.isEmpty && (x0 :: ws).all fun x => decide (x.length ≤ 1000)
/-- the parts of a word with dots about each sign -/
def signsOf (i : Nat) (row : List Int) : List Str := (row.map fun b => (⟨#[if b = 0 then c0T.getD i 0 else c1T.getD i 0]⟩ : Str)) ++ [⟨#[]⟩]
def cutAt (i : Nat) (row : List Int) (p : Nat) : Bool := (Txt.slice (wd i row) none (some (p : Int)) == wd i (row.take p)) && (Txt.slice (wd i row) (some (p : Int)) none == wd i (row.drop p))
def shape (i : Nat) (row : List Int) : Bool := (List.range (row.length + 2)).all fun p => cutAt i row p && splitIs (dotAt (wd i row) p) (wd i (row.take p)) [wd i (row.drop p)]
def dots (i : Nat) (row : List Int) : Bool := splitIs (dotsOf (wd i row)) ⟨#[]⟩ (signsOf i row)
def cuts (i : Nat) (row : List Int) : Bool := (List.range (row.length + 1)).all (cutAt i row)
def fitS (got x0 : Str) (ws : List Str) (b : Bool) : Bool := (ellipsisS got x0 ws == b) && decide (got.length ≤ 1000)
def rowFit (i n : Nat) (r : Int) (row : List Int) : Bool :=
  (codeL n r).all (fun c => fitS (wd i c) ⟨#[]⟩ (signsOf i row) (seqS (wd i c) (wd i (dueRow row r)))) &&
  fitS (hyph (wd i (dueRow row r))) ⟨#[]⟩ (signsOf i row) true &&
  (List.range n).all fun gap => fitS (wd i (dueRow row r)) (wd i (row.take gap)) [wd i (row.drop gap)] (seqS (wd i (gapRow row r gap)) (wd i (dueRow row r)))
def rowBits (n : Nat) (r : Int) (row : List Int) : Bool := decide (placeOf row r ≤ row.length) && decide (row.length + 1 = n) && ((putOf row r == 0) || (putOf row r == 1)) && (codeL n r).contains (dueRow row r)
def richOf (i : Nat) (due : List Int) (p : Nat) : Str := wd i (due.take p) ++ ⟨((bothT.getD i []).drop 1).toArray⟩ ++ wd i (due.drop (p + 1))
def endFit (i n : Nat) (r : Int) (due : List Int) : Bool :=
  (List.range n).all fun p => (codeL n r).all fun c => fitS (richOf i due p) ⟨#[]⟩ (signsOf i c) (seqS (wd i c) (wd i due))
def allRs (n : Nat) : List Int := (List.range (n + 1)).map fun (r : Nat) => (r : Int)
def fits (i n : Nat) (fb : Int) : Bool := (allRs n).all fun r => (rowsL n fb).all (rowFit i n r)
def endFits (i n : Nat) : Bool := (allRs n).all fun r => (codeL n r).all (endFit i n r)
end partMine27
section partRen1
set_option autoImplicit false
open PySem.Builtin PySem.Builtin.Str
/-! a renaming of the signs changes no test -/
def mapS (f : Nat → Nat) (x : Str) : Str := ⟨x.cps.map f⟩
section
variable {f : Nat → Nat}
theorem mapS_list (x : Str) : (mapS f x).cps.toList = x.cps.toList.map f := Array.toList_map ..
theorem mapS_len (x : Str) : (mapS f x).length = x.length := Array.size_map ..
theorem mapS_size (x : Str) : (mapS f x).cps.size = x.cps.size := Array.size_map ..
theorem mapS_mk (l : List Nat) : mapS f ⟨l.toArray⟩ = ⟨(l.map f).toArray⟩ := by unfold mapS; simp
theorem mapS_nil : mapS f ⟨#[]⟩ = ⟨#[]⟩ := by
  have := mapS_mk (f := f) []
  simpa using this
theorem mapS_one (c : Nat) : mapS f ⟨#[c]⟩ = ⟨#[f c]⟩ := by
  have := mapS_mk (f := f) [c]
  simpa using this
theorem mapS_empty : mapS f (Str.ofString "") = Str.ofString "" := by
  have : Str.ofString "" = ⟨#[]⟩ := by decide +kernel
  rw [this]; exact mapS_nil
theorem mapS_append (x y : Str) : mapS f (x ++ y) = mapS f x ++ mapS f y := by
  show Str.mk ((x.cps ++ y.cps).map f) = Str.mk (x.cps.map f ++ y.cps.map f)
  rw [Array.map_append]
variable (hf : ∀ a b, f a = f b → a = b)
include hf
theorem prefix_map : ∀ (xs ys : List Nat), (xs.map f).isPrefixOf (ys.map f) = xs.isPrefixOf ys
  | [], _ => rfl
  | _ :: _, [] => rfl
  | a :: xs, b :: ys => by
    rw [List.map_cons, List.map_cons]
    show (f a == f b && (xs.map f).isPrefixOf (ys.map f)) = (a == b && xs.isPrefixOf ys)
    rw [prefix_map xs ys]
    have : (f a == f b) = (a == b) := by
      rw [Bool.eq_iff_iff, beq_iff_eq, beq_iff_eq]
      exact ⟨hf a b, fun e => by rw [e]⟩
    rw [this]
theorem mapS_inj {x y : Str} (h : mapS f x = mapS f y) : x = y := by
  have := congrArg (fun z : Str => z.cps.toList) h
  simp only [mapS_list] at this
  have e := List.map_inj_right (fun a b => hf a b) |>.mp this
  cases x; cases y
  simp only [Str.mk.injEq]
  exact Array.toList_inj.mp e
theorem occL_map (sub : List Nat) (m hi limit : Nat) : ∀ (n : Nat) (xs : List Nat) (i cnt free : Nat), occL (sub.map f) m hi limit n (xs.map f) i cnt free = occL sub m hi limit n xs i cnt free
  | 0, _, _, _, _ => rfl
  | n + 1, xs, i, cnt, free => by
    unfold occL
    rw [prefix_map hf, ← List.map_tail, occL_map sub m hi limit n xs.tail, occL_map sub m hi limit n xs.tail]
theorem occS_map (x y : Str) (lo hi limit : Nat) : occS (mapS f x) (mapS f y) lo hi limit = occS x y lo hi limit := by
  unfold occS
  rw [mapS_list, mapS_list, mapS_size, ← List.map_drop, occL_map hf]
theorem find4S_map (x y : Str) (i j : Int) : find4S (mapS f x) (mapS f y) i j = find4S x y i j := by
  unfold find4S
  rw [mapS_len, occS_map hf]
theorem subAt_map (x y : Str) (i : Nat) : subAt (mapS f x) (mapS f y) i = subAt x y i := by
  rw [subAt_prefix, subAt_prefix, mapS_list, mapS_list, ← List.map_drop, prefix_map hf]
theorem starts_map (x y : Str) : Txt.startswith (mapS f x) (mapS f y) = Txt.startswith x y := by
  unfold Txt.startswith
  rw [mapS_len, mapS_len, subAt_map hf]
theorem ends_map (x y : Str) : Txt.endswith (mapS f x) (mapS f y) = Txt.endswith x y := by
  unfold Txt.endswith
  rw [mapS_len, mapS_len, subAt_map hf]
theorem ellLoopS_map (got : Str) (e : Int) : ∀ (ws : List Str) (p : Int), ellLoopS (mapS f got) e (ws.map (mapS f)) p = ellLoopS got e ws p
  | [], _ => rfl
  | x :: ws, p => by
    rw [List.map_cons]
    unfold ellLoopS
    rw [find4S_map hf, mapS_len, ellLoopS_map got e ws]
theorem ellHead_map (got x : Str) (ws : List Str) : ellHead (mapS f got) (mapS f x) (ws.map (mapS f)) = (ellHead got x ws).map fun y => (y.1, y.2.map (mapS f)) := by
  unfold ellHead
  rw [mapS_len, starts_map hf]
  split
  · rfl
  · split <;> rfl
theorem ellLast_map (got : Str) (ws : List Str) : ellLast (mapS f got) (ws.map (mapS f)) = (ellLast got ws).map fun y => (y.1, y.2.map (mapS f)) := by
  have hl : (ws.map (mapS f)).getLastD (Str.ofString "") = mapS f (ws.getLastD (Str.ofString "")) := by
    rw [List.getLastD_eq_getLast?, List.getLastD_eq_getLast?, List.getLast?_map]
    cases ws.getLast? with
    | none => exact mapS_empty.symm
    | some x => rfl
  unfold ellLast
  dsimp only
  rw [hl, mapS_len, mapS_len, ends_map hf]
  split
  · rfl
  · split
    · rw [← List.map_dropLast]; rfl
    · rfl
theorem ellipsisS_map (got x : Str) (ws : List Str) : ellipsisS (mapS f got) (mapS f x) (ws.map (mapS f)) = ellipsisS got x ws := by
  unfold ellipsisS
  rw [ellHead_map hf]
  cases ellHead got x ws with
  | none => rfl
  | some y =>
    dsimp only [Option.map_some]
    rw [ellLast_map hf]
    cases ellLast got y.2 with
    | none => rfl
    | some z =>
      dsimp only [Option.map_some]
      rw [ellLoopS_map hf]
theorem seqS_map (x y : Str) : seqS (mapS f x) (mapS f y) = seqS x y := by
  unfold seqS
  rw [mapS_list, mapS_list, Bool.eq_iff_iff, beq_iff_eq, beq_iff_eq]
  exact ⟨fun h => (List.map_inj_right (fun a b => hf a b)).mp h, fun h => by rw [h]⟩
theorem fitS_map (got x : Str) (ws : List Str) (b : Bool) : fitS (mapS f got) (mapS f x) (ws.map (mapS f)) b = fitS got x ws b := by
  unfold fitS
  rw [ellipsisS_map hf, mapS_len]
theorem eqS_map (x y : Str) : (mapS f x == mapS f y) = (x == y) := by
  rw [Bool.eq_iff_iff, beq_iff_eq, beq_iff_eq]
  exact ⟨mapS_inj hf, fun h => by rw [h]⟩
theorem eqL_map (xs ys : List Str) : (xs.map (mapS f) == ys.map (mapS f)) = (xs == ys) := by
  rw [Bool.eq_iff_iff, beq_iff_eq, beq_iff_eq]
  exact ⟨fun h => (List.map_inj_right (fun a b => mapS_inj hf)).mp h, fun h => by rw [h]⟩
omit hf in
theorem kind_low (x y : Str) (hy : Str.strKind y = 1) : decide (Str.strKind x < Str.strKind y) = false := by
  rw [hy]
  unfold Str.strKind
  split
  · rfl
  · split <;> rfl
omit hf in
theorem parts_map (x : Str) (cuts : List Nat) (k : Nat) : partsBetween (mapS f x) cuts k = (partsBetween x cuts k).map (mapS f) := by
  unfold partsBetween
  dsimp only
  rw [mapS_len, List.map_map]
  refine List.map_congr_left fun y _ => ?_
  show Str.mk ((x.cps.map f).extract y.1 y.2) = Str.mk ((x.cps.extract y.1 y.2).map f)
  rw [Array.map_extract]
theorem splitS_map {y : Str} (hy : mapS f y = y) (hk : Str.strKind y = 1) (x : Str) : splitS (mapS f x) y = (splitS x y).map (mapS f) := by
  have ho : ∀ lo hi limit, occS (mapS f x) y lo hi limit = occS x y lo hi limit := fun lo hi limit => by
    have := occS_map hf x y lo hi limit
    rwa [hy] at this
  unfold splitS
  rw [mapS_len, ho, kind_low _ _ hk, kind_low _ _ hk, Bool.or_false]
  split
  · rfl
  · split
    · rfl
    · exact parts_map x _ _
theorem contains_map {y : Str} (hy : mapS f y = y) (x : Str) : containsS (mapS f x) y = containsS x y := by
  unfold containsS
  have := occS_map hf x y 0 x.length 1
  rw [hy] at this
  rw [mapS_len, this]
theorem splitIs_map (hy : mapS f "..." = "...") (want x0 : Str) (ws : List Str) : splitIs (mapS f want) (mapS f x0) (ws.map (mapS f)) = splitIs want x0 ws := by
  unfold splitIs
  rw [contains_map hf hy, splitS_map hf hy (by decide +kernel), mapS_len, List.length_map, List.isEmpty_map, ← List.map_cons, eqL_map hf, List.all_map]
  have : ((x0 :: ws).all ((fun x => decide (x.length ≤ 1000)) ∘ mapS f)) = (x0 :: ws).all fun x => decide (x.length ≤ 1000) := by
    congr 1
    funext x
    show decide ((mapS f x).length ≤ 1000) = _
    rw [mapS_len]
  rw [this]
omit hf in
theorem slice_map (x : Str) (l u : Option Int) : Txt.slice (mapS f x) l u = mapS f (Txt.slice x l u) := by
  unfold Txt.slice
  rw [mapS_len]
  split
  · rfl
  · rw [mapS_mk ((strSliceIndices l u 1 x.length).filterMap (x.cps[·]?)), List.map_filterMap]
    refine congrArg (fun l : List Nat => (⟨l.toArray⟩ : Str)) ?_
    refine congrArg (fun g => List.filterMap g _) (funext fun i => ?_)
    show (x.cps.map f)[i]? = _
    rw [Array.getElem?_map]
omit hf in
theorem glued_foldl (sep : Str) (hs : mapS f sep = sep) : ∀ (l : List Str) (acc : Array Nat), (l.map (mapS f)).foldl (fun acc p => acc ++ sep.cps ++ p.cps) (acc.map f) = (l.foldl (fun acc p => acc ++ sep.cps ++ p.cps) acc).map f
  | [], _ => rfl
  | x :: l, acc => by
    rw [List.map_cons, List.foldl_cons, List.foldl_cons, ← glued_foldl sep hs l]
    congr 1
    have : sep.cps.map f = sep.cps := congrArg Str.cps hs
    rw [Array.map_append, Array.map_append, this]
    rfl
omit hf in
theorem join_map (sep : Str) (hs : mapS f sep = sep) (l : List Str) : Txt.join sep (l.map (mapS f)) = mapS f (Txt.join sep l) := by
  unfold Txt.join glued
  have hd : (l.map (mapS f)).headD Str.empty = mapS f (l.headD Str.empty) := by
    cases l with
    | nil => exact mapS_nil.symm
    | cons x l => rfl
  rw [hd, ← List.map_drop]
  show Str.mk _ = Str.mk _
  congr 1
  exact glued_foldl sep hs (l.drop 1) _
omit hf in
theorem signs_map (x : Str) : signs (mapS f x) = (signs x).map (mapS f) := by
  unfold signs
  rw [mapS_list, List.map_map, List.map_map]
  refine List.map_congr_left fun c _ => ?_
  show Str.mk _ = Str.mk _
  simp
omit hf in
theorem dotsOf_map (hy : mapS f "..." = "...") (x : Str) : dotsOf (mapS f x) = mapS f (dotsOf x) := by
  unfold dotsOf
  rw [signs_map, join_map _ hy, mapS_append, mapS_append, hy]
omit hf in
theorem hyph_map (hy : mapS f "-\n-" = "-\n-") (x : Str) : hyph (mapS f x) = mapS f (hyph x) := by
  unfold hyph
  rw [signs_map, join_map _ hy, mapS_append, mapS_append, hy]
omit hf in
theorem dotAt_map (hy : mapS f "..." = "...") (x : Str) (g : Nat) : dotAt (mapS f x) g = mapS f (dotAt x g) := by
  unfold dotAt
  rw [slice_map, slice_map, mapS_append, mapS_append, hy]
end
/-! the renaming of pair k's letters to pair i's -/
def ren (k i : Nat) (c : Nat) : Nat :=
  if c = c0T.getD k 0 then c0T.getD i 0 else if c = c1T.getD k 0 then c1T.getD i 0 else if c = c0T.getD i 0 then c0T.getD k 0 else if c = c1T.getD i 0 then c1T.getD k 0 else c
theorem ren_inj {k i : Nat} (hk : k < 7) (hi : i < 7) : ∀ a b, ren k i a = ren k i b → a = b := by
  obtain ⟨k0, k1⟩ := letters_fact k hk
  obtain ⟨i0, i1⟩ := letters_fact i hi
  intro a b h
  unfold ren at h
  repeat' split at h
  all_goals omega
theorem ren_fix : ∀ k, k < 7 → ∀ i, i < 7 → ren k i 46 = 46 ∧ ren k i 45 = 45 ∧ ren k i 10 = 10 := by decide +kernel
structure Ren (k i : Nat) : Prop where
  inj : ∀ a b, ren k i a = ren k i b → a = b
  c0 : ren k i (c0T.getD k 0) = c0T.getD i 0
  c1 : ren k i (c1T.getD k 0) = c1T.getD i 0
  dot : mapS (ren k i) "..." = "..."
  hy : mapS (ren k i) "-\n-" = "-\n-"
theorem ren_of {k i : Nat} (hk : k < 7) (hi : i < 7) : Ren k i := by
  obtain ⟨k0, k1⟩ := letters_fact k hk
  obtain ⟨i0, i1⟩ := letters_fact i hi
  obtain ⟨f1, f2, f3⟩ := ren_fix k hk i hi
  refine ⟨ren_inj hk hi, ?_, ?_, ?_, ?_⟩
  · unfold ren; rw [if_pos rfl]
  · unfold ren; rw [if_neg (by omega), if_pos rfl]
  · have : (Str.ofString "...") = ⟨[46, 46, 46].toArray⟩ := by decide +kernel
    show mapS (ren k i) (Str.ofString "...") = Str.ofString "..."
    rw [this, mapS_mk]
    simp only [List.map_cons, List.map_nil, f1]
  · have : (Str.ofString "-\n-") = ⟨[45, 10, 45].toArray⟩ := by decide +kernel
    show mapS (ren k i) (Str.ofString "-\n-") = Str.ofString "-\n-"
    rw [this, mapS_mk]
    simp only [List.map_cons, List.map_nil, f2, f3]
section
variable {k i : Nat} (R : Ren k i)
include R
theorem wd_ren (bs : List Int) : wd i bs = mapS (ren k i) (wd k bs) := by
  unfold wd
  rw [word_cps, word_cps, mapS_mk, List.map_map]
  congr 2
  refine List.map_congr_left fun b _ => ?_
  simp only [Function.comp]
  split
  · exact R.c0.symm
  · exact R.c1.symm
theorem signsOf_ren (row : List Int) : signsOf i row = (signsOf k row).map (mapS (ren k i)) := by
  unfold signsOf
  rw [List.map_append, List.map_map, List.map_cons, List.map_nil, mapS_nil]
  congr 1
  refine List.map_congr_left fun b _ => ?_
  simp only [Function.comp]
  rw [mapS_one]
  split
  · rw [R.c0]
  · rw [R.c1]
theorem cutAt_ren (row : List Int) (p : Nat) : cutAt i row p = cutAt k row p := by
  unfold cutAt
  rw [wd_ren R row, wd_ren R (row.take p), wd_ren R (row.drop p), slice_map, slice_map, eqS_map R.inj, eqS_map R.inj]
theorem shape_ren (row : List Int) : shape i row = shape k row := by
  unfold shape
  congr 1
  funext p
  rw [cutAt_ren R, wd_ren R row, wd_ren R (row.take p), wd_ren R (row.drop p), dotAt_map R.dot]
  have := splitIs_map R.inj R.dot (dotAt (wd k row) p) (wd k (row.take p)) [wd k (row.drop p)]
  rw [List.map_cons, List.map_nil] at this
  rw [this]
theorem dots_ren (row : List Int) : dots i row = dots k row := by
  unfold dots
  rw [wd_ren R row, signsOf_ren R, dotsOf_map R.dot]
  have := splitIs_map R.inj R.dot (dotsOf (wd k row)) ⟨#[]⟩ (signsOf k row)
  rwa [mapS_nil] at this
theorem cuts_ren (row : List Int) : cuts i row = cuts k row := by
  unfold cuts
  congr 1
  funext p
  exact cutAt_ren R row p
theorem fit_ren (x : Str) (row : List Int) (b : Bool) : fitS (mapS (ren k i) x) ⟨#[]⟩ (signsOf i row) b = fitS x ⟨#[]⟩ (signsOf k row) b := by
  have := fitS_map R.inj x ⟨#[]⟩ (signsOf k row) b
  rwa [mapS_nil, ← signsOf_ren R] at this
theorem seq_ren (a b : List Int) : seqS (wd i a) (wd i b) = seqS (wd k a) (wd k b) := by
  rw [wd_ren R a, wd_ren R b, seqS_map R.inj]
theorem rowFit_ren (n : Nat) (r : Int) (row : List Int) : rowFit i n r row = rowFit k n r row := by
  have h1 : (fun c => fitS (wd i c) ⟨#[]⟩ (signsOf i row) (seqS (wd i c) (wd i (dueRow row r)))) = fun c => fitS (wd k c) ⟨#[]⟩ (signsOf k row) (seqS (wd k c) (wd k (dueRow row r))) := by
    funext c
    rw [seq_ren R, wd_ren R c, fit_ren R]
  have h2 : fitS (hyph (wd i (dueRow row r))) ⟨#[]⟩ (signsOf i row) true = fitS (hyph (wd k (dueRow row r))) ⟨#[]⟩ (signsOf k row) true := by
    rw [wd_ren R (dueRow row r), hyph_map R.hy, fit_ren R]
  have h3 : (fun gap => fitS (wd i (dueRow row r)) (wd i (row.take gap)) [wd i (row.drop gap)] (seqS (wd i (gapRow row r gap)) (wd i (dueRow row r)))) = fun gap => fitS (wd k (dueRow row r)) (wd k (row.take gap)) [wd k (row.drop gap)] (seqS (wd k (gapRow row r gap)) (wd k (dueRow row r))) := by
    funext gap
    rw [seq_ren R, wd_ren R (dueRow row r), wd_ren R (row.take gap), wd_ren R (row.drop gap)]
    exact fitS_map R.inj _ _ [wd k (row.drop gap)] _
  unfold rowFit
  rw [h1, h2, h3]
theorem fits_ren (n : Nat) (fb : Int) : fits i n fb = fits k n fb := by
  have h1 : (fun r => (rowsL n fb).all (rowFit i n r)) = fun r => (rowsL n fb).all (rowFit k n r) := by
    funext r
    congr 1
    funext row
    exact rowFit_ren R n r row
  unfold fits
  rw [h1]
theorem rich_ren (hb : (bothT.getD i []).drop 1 = ((bothT.getD k []).drop 1).map (ren k i)) (due : List Int) (p : Nat) : richOf i due p = mapS (ren k i) (richOf k due p) := by
  unfold richOf
  rw [wd_ren R (due.take p), wd_ren R (due.drop (p + 1)), hb, mapS_append, mapS_append, mapS_mk ((bothT.getD k []).drop 1)]
theorem endFit_ren (hb : (bothT.getD i []).drop 1 = ((bothT.getD k []).drop 1).map (ren k i)) (n : Nat) (r : Int) (due : List Int) : endFit i n r due = endFit k n r due := by
  have h1 : (fun p => (codeL n r).all fun c => fitS (richOf i due p) ⟨#[]⟩ (signsOf i c) (seqS (wd i c) (wd i due))) = fun p => (codeL n r).all fun c => fitS (richOf k due p) ⟨#[]⟩ (signsOf k c) (seqS (wd k c) (wd k due)) := by
    funext p
    congr 1
    funext c
    rw [seq_ren R, rich_ren R hb, fit_ren R]
  unfold endFit
  rw [h1]
theorem endFits_ren (hb : (bothT.getD i []).drop 1 = ((bothT.getD k []).drop 1).map (ren k i)) (n : Nat) : endFits i n = endFits k n := by
  have h1 : (fun r => (codeL n r).all (endFit i n r)) = fun r => (codeL n r).all (endFit k n r) := by
    funext r
    congr 1
    funext due
    exact endFit_ren R hb n r due
  unfold endFits
  rw [h1]
end
end partRen1
section partMine28
set_option autoImplicit false
set_option maxHeartbeats 0
theorem bits_all : ([4, 5].all fun n => (allRs n).all fun r => !(codeL n r).isEmpty && [0, 1].all fun fb => (rowsL n fb).all (rowBits n r)) = true := by decide +kernel
theorem zero_lt7 : 0 < 7 := by decide
theorem two_lt7 : 2 < 7 := by decide
theorem shape3_0 : ((rowsOf 3).all (shape 0)) = true := by decide +kernel
theorem shape3 (i : Nat) (hi : i < 7) : ((rowsOf 3).all (shape i)) = true := by
  rw [show shape i = shape 0 from funext fun row => shape_ren (ren_of zero_lt7 hi) row]
  exact shape3_0
theorem shape4_0 : ((rowsOf 4).all (shape 0)) = true := by decide +kernel
theorem shape4 (i : Nat) (hi : i < 7) : ((rowsOf 4).all (shape i)) = true := by
  rw [show shape i = shape 0 from funext fun row => shape_ren (ren_of zero_lt7 hi) row]
  exact shape4_0
theorem dots3_0 : ((rowsOf 3).all (dots 0)) = true := by decide +kernel
theorem dots3 (i : Nat) (hi : i < 7) : ((rowsOf 3).all (dots i)) = true := by
  rw [show dots i = dots 0 from funext fun row => dots_ren (ren_of zero_lt7 hi) row]
  exact dots3_0
theorem dots4_0 : ((rowsOf 4).all (dots 0)) = true := by decide +kernel
theorem dots4 (i : Nat) (hi : i < 7) : ((rowsOf 4).all (dots i)) = true := by
  rw [show dots i = dots 0 from funext fun row => dots_ren (ren_of zero_lt7 hi) row]
  exact dots4_0
theorem dots5_0 : ((rowsOf 5).all (dots 0)) = true := by decide +kernel
theorem dots5 (i : Nat) (hi : i < 7) : ((rowsOf 5).all (dots i)) = true := by
  rw [show dots i = dots 0 from funext fun row => dots_ren (ren_of zero_lt7 hi) row]
  exact dots5_0
theorem cuts5_0 : ((rowsOf 5).all (cuts 0)) = true := by decide +kernel
theorem cuts5 (i : Nat) (hi : i < 7) : ((rowsOf 5).all (cuts i)) = true := by
  rw [show cuts i = cuts 0 from funext fun row => cuts_ren (ren_of zero_lt7 hi) row]
  exact cuts5_0
theorem fits_4_0 : (fits 0 4 0) = true := by decide +kernel
theorem fits_4 (i : Nat) (hi : i < 7) : (fits i 4 0) = true := (fits_ren (ren_of zero_lt7 hi) 4 0).trans fits_4_0
theorem fits_50_0 : (fits 0 5 0) = true := by decide +kernel
theorem fits_50 (i : Nat) (hi : i < 7) : (fits i 5 0) = true := (fits_ren (ren_of zero_lt7 hi) 5 0).trans fits_50_0
theorem fits_51_0 : (fits 0 5 1) = true := by decide +kernel
theorem fits_51 (i : Nat) (hi : i < 7) : (fits i 5 1) = true := (fits_ren (ren_of zero_lt7 hi) 5 1).trans fits_51_0
theorem ends_4_0 : (endFits 0 4) = true := by decide +kernel
theorem ends_4_2 : (endFits 2 4) = true := by decide +kernel
theorem ends_4 : ∀ i, i < 7 → (endFits i 4) = true
  | 0, h => (endFits_ren (ren_of zero_lt7 h) (by decide +kernel) 4).trans ends_4_0
  | 1, h => (endFits_ren (ren_of zero_lt7 h) (by decide +kernel) 4).trans ends_4_0
  | 2, h => (endFits_ren (ren_of two_lt7 h) (by decide +kernel) 4).trans ends_4_2
  | 3, h => (endFits_ren (ren_of two_lt7 h) (by decide +kernel) 4).trans ends_4_2
  | 4, h => (endFits_ren (ren_of two_lt7 h) (by decide +kernel) 4).trans ends_4_2
  | 5, h => (endFits_ren (ren_of two_lt7 h) (by decide +kernel) 4).trans ends_4_2
  | 6, h => (endFits_ren (ren_of zero_lt7 h) (by decide +kernel) 4).trans ends_4_0
  | n + 7, h => absurd h (by omega)
theorem ends_5_0 : (endFits 0 5) = true := by decide +kernel
theorem ends_5_2 : (endFits 2 5) = true := by decide +kernel
theorem ends_5 : ∀ i, i < 7 → (endFits i 5) = true
  | 0, h => (endFits_ren (ren_of zero_lt7 h) (by decide +kernel) 5).trans ends_5_0
  | 1, h => (endFits_ren (ren_of zero_lt7 h) (by decide +kernel) 5).trans ends_5_0
  | 2, h => (endFits_ren (ren_of two_lt7 h) (by decide +kernel) 5).trans ends_5_2
  | 3, h => (endFits_ren (ren_of two_lt7 h) (by decide +kernel) 5).trans ends_5_2
  | 4, h => (endFits_ren (ren_of two_lt7 h) (by decide +kernel) 5).trans ends_5_2
  | 5, h => (endFits_ren (ren_of two_lt7 h) (by decide +kernel) 5).trans ends_5_2
  | 6, h => (endFits_ren (ren_of zero_lt7 h) (by decide +kernel) 5).trans ends_5_0
  | n + 7, h => absurd h (by omega)
end partMine28
section partMine29
set_option autoImplicit false
/-! the signs: what the preparing makes of them -/
def signOkB (c : Nat) : Bool := (match Spec.lookup (.int c) b3L with | none => true | some (.str _) => true | _ => false) && !Builtin.Str.tooLong (Txt.lower ⟨#[c]⟩).length && decide ((b3of c).length ≤ 10)
theorem signOk_of {c : Nat} (h : signOkB c = true) : SignOk c := by
  unfold signOkB at h
  simp only [Bool.and_eq_true, Bool.not_eq_true', decide_eq_true_eq] at h
  refine ⟨?_, h.1.2, h.2⟩
  have := h.1.1
  cases q : Spec.lookup (.int c) b3L with
  | none => exact .inl rfl
  | some d =>
    rw [q] at this
    cases d <;> first | exact .inr ⟨_, rfl⟩ | cases this
theorem signs0 : ((List.range 7).all fun i => (s0T.getD i []).all fun c => signOkB c && (prep1 c == ⟨#[c0T.getD i 0]⟩)) = true := by decide +kernel
theorem signs1 : ((List.range 7).all fun i => (s1T.getD i []).all fun c => signOkB c && (prep1 c == ⟨#[c1T.getD i 0]⟩)) = true := by decide +kernel
theorem unseens : (b1L.all fun c => signOkB c.toNat && (prep1 c.toNat == ⟨#[]⟩)) = true := by decide +kernel
theorem besides : (besideL.all fun c => signOkB c.toNat && (prep1 c.toNat == ⟨#[c.toNat]⟩)) = true := by decide +kernel
theorem boths : ((List.range 7).all fun i => signOkB ((bothT.getD i []).getD 0 0) && (prep1 ((bothT.getD i []).getD 0 0) == ⟨((bothT.getD i []).drop 1).toArray⟩)) = true := by decide +kernel
end partMine29
section partMine30
set_option autoImplicit false
abbrev g0 (i : Nat) : List Nat := s0T.getD i []
abbrev g1 (i : Nat) : List Nat := s1T.getD i []
def Spells (i : Nat) (c : Nat) (b : Int) : Prop := SignOk c ∧ prep1 c = ltr ⟨#[c0T.getD i 0]⟩ ⟨#[c1T.getD i 0]⟩ b
theorem g_len : ∀ i, i < 7 → (g0 i).length = 4 ∧ (g1 i).length = 4 := by decide
theorem all_lt {p : Nat → Bool} {n : Nat} (h : (List.range n).all p = true) {i : Nat} (hi : i < n) : p i = true := List.all_eq_true.mp h i (List.mem_range.mpr hi)
theorem sign0 {i c : Nat} (hi : i < 7) (hc : c ∈ g0 i) : Spells i c 0 := by
  have := List.all_eq_true.mp (all_lt signs0 hi) c hc
  simp only [Bool.and_eq_true, beq_iff_eq] at this
  exact ⟨signOk_of this.1, by rw [this.2]; rfl⟩
theorem sign1 {i c : Nat} (hi : i < 7) (hc : c ∈ g1 i) : Spells i c 1 := by
  have := List.all_eq_true.mp (all_lt signs1 hi) c hc
  simp only [Bool.and_eq_true, beq_iff_eq] at this
  exact ⟨signOk_of this.1, by rw [this.2]; rfl⟩
theorem All2.of_get {α β : Type} {F : α → β → Prop} : ∀ {as : List α} {bs : List β}, as.length = bs.length → (∀ (k : Nat) (a : α) (b : β), as[k]? = some a → bs[k]? = some b → F a b) → All2 F as bs
  | [], [], _, _ => .nil
  | a :: as, b :: bs, hl, h => .cons (h 0 a b rfl rfl) (All2.of_get (by simpa using hl) fun k x y hx hy => h (k + 1) x y (by simpa using hx) (by simpa using hy))
theorem All2.take {α β : Type} {F : α → β → Prop} {as : List α} {bs : List β} (h : All2 F as bs) : ∀ n, All2 F (as.take n) (bs.take n) := by
  induction h with
  | nil => intro n; simp; exact .nil
  | cons x _ ih =>
    intro n
    cases n with
    | zero => exact .nil
    | succ n => exact .cons x (ih n)
theorem All2.drop {α β : Type} {F : α → β → Prop} {as : List α} {bs : List β} (h : All2 F as bs) : ∀ n, All2 F (as.drop n) (bs.drop n) := by
  induction h with
  | nil => intro n; simp; exact .nil
  | cons x h ih =>
    intro n
    cases n with
    | zero => exact .cons x h
    | succ n => exact ih n
theorem spelled_all {i : Nat} (hi : i < 7) {row : List Int} (hb : Bits row) (d : Int) : All2 (Spells i) (spelledOf (g0 i) (g1 i) row d) row := by
  refine All2.of_get (by unfold spelledOf; simp) fun k c b hc hbk => ?_
  have hk : k < row.length := by
    rcases Nat.lt_or_ge k row.length with q | q
    · exact q
    · rw [List.getElem?_eq_none q] at hbk; cases hbk
  unfold spelledOf at hc
  rw [List.getElem?_map, List.getElem?_range hk] at hc
  have hc' : signAt (g0 i) (g1 i) row d k = c := by simpa using hc
  have hbb := hb b (List.mem_of_getElem? hbk)
  have hq := fmod_lt (i := d.fdiv (4 ^ k)) (n := 4) (by decide)
  obtain ⟨l0, l1⟩ := g_len i hi
  have hgd : row.getD k 0 = b := by rw [List.getD_eq_getElem?_getD, hbk]; rfl
  unfold signAt at hc'
  rw [hgd] at hc'
  have mem : ∀ g : List Nat, g.length = 4 → g.getD ((d.fdiv (4 ^ k)).fmod 4).toNat 0 ∈ g := by
    intro g hg
    have hl : ((d.fdiv (4 ^ k)).fmod 4).toNat < g.length := by omega
    rw [List.getD_eq_getElem?_getD, List.getElem?_eq_getElem hl]
    exact List.getElem_mem hl
  rcases hbb with rfl | rfl
  · rw [if_pos rfl] at hc'; exact hc' ▸ sign0 hi (mem _ l0)
  · rw [if_neg (by decide)] at hc'; exact hc' ▸ sign1 hi (mem _ l1)
theorem wd_cons (i : Nat) (b : Int) (bs : List Int) : wd i (b :: bs) = ltr ⟨#[c0T.getD i 0]⟩ ⟨#[c1T.getD i 0]⟩ b ++ wd i bs := by
  unfold wd
  rw [word_cps, word_cps]
  have e : ltr ⟨#[c0T.getD i 0]⟩ ⟨#[c1T.getD i 0]⟩ b = ⟨#[if b = 0 then c0T.getD i 0 else c1T.getD i 0]⟩ := by unfold ltr; split <;> rfl
  rw [e]
  show _ = Str.mk _
  simp
theorem told_all {i : Nat} {cs : List Nat} {row : List Int} (h : All2 (Spells i) cs row) : prepOf cs = wd i row := by
  induction h with
  | nil => rfl
  | cons x _ ih =>
    show prep1 _ ++ prepOf _ = _
    rw [wd_cons, ih, x.2]
theorem ok_all {i : Nat} {cs : List Nat} {row : List Int} (h : All2 (Spells i) cs row) : ∀ c ∈ cs, SignOk c := by
  induction h with
  | nil => nofun
  | cons x _ ih =>
    intro c hc
    rcases List.mem_cons.mp hc with rfl | hc
    · exact x.1
    · exact ih c hc
/-- signs with one more in a place, prepared -/
theorem told_put {i : Nat} {cs : List Nat} {row : List Int} (h : All2 (Spells i) cs row) (p q x : Nat) (hx : SignOk x) :
    prepOf (cs.take p ++ [x] ++ cs.drop q) = wd i (row.take p) ++ prep1 x ++ wd i (row.drop q) ∧ ∀ c ∈ cs.take p ++ [x] ++ cs.drop q, SignOk c := by
  refine ⟨?_, ?_⟩
  · rw [prepOf_append, prepOf_append, told_all (h.take p), told_all (h.drop q)]
    show _ ++ (prep1 x ++ Str.ofString "") ++ _ = _
    rw [append_empty']
  · intro c hc
    rcases List.mem_append.mp hc with hc | hc
    · rcases List.mem_append.mp hc with hc | hc
      · exact ok_all (h.take p) c hc
      · rw [List.mem_singleton.mp hc]; exact hx
    · exact ok_all (h.drop q) c hc
theorem wd_append (i : Nat) (a b : List Int) : wd i (a ++ b) = wd i a ++ wd i b := by
  induction a with
  | nil => exact (empty_append' _).symm
  | cons x a ih => rw [List.cons_append, wd_cons, wd_cons, ih, Str.append_assoc]
theorem unseen_ok (k : Int) : SignOk (unseenC k).toNat ∧ prep1 (unseenC k).toNat = Str.ofString "" := by
  have hq := fmod_lt (i := k) (n := 27) (by decide)
  have hl : (k.fmod 27).toNat < b1L.length := by have : b1L.length = 27 := by decide
                                                 omega
  have hm : unseenC k ∈ b1L := by
    unfold unseenC
    rw [List.getD_eq_getElem?_getD, List.getElem?_eq_getElem hl]
    exact List.getElem_mem hl
  have := List.all_eq_true.mp unseens _ hm
  simp only [Bool.and_eq_true, beq_iff_eq] at this
  exact ⟨signOk_of this.1, this.2⟩
theorem beside_ok (k : Int) : SignOk (besideC k).toNat ∧ prep1 (besideC k).toNat = ⟨#[(besideC k).toNat]⟩ := by
  have hq := fmod_lt (i := k) (n := 16) (by decide)
  have hl : (k.fmod 16).toNat < besideL.length := by have : besideL.length = 16 := by decide
                                                     omega
  have hm : besideC k ∈ besideL := by
    unfold besideC
    rw [List.getD_eq_getElem?_getD, List.getElem?_eq_getElem hl]
    exact List.getElem_mem hl
  have := List.all_eq_true.mp besides _ hm
  simp only [Bool.and_eq_true, beq_iff_eq] at this
  exact ⟨signOk_of this.1, this.2⟩
theorem both_ok {i : Nat} (hi : i < 7) : SignOk ((bothT.getD i []).getD 0 0) ∧ prep1 ((bothT.getD i []).getD 0 0) = ⟨((bothT.getD i []).drop 1).toArray⟩ := by
  have := all_lt boths hi
  simp only [Bool.and_eq_true, beq_iff_eq] at this
  exact ⟨signOk_of this.1, this.2⟩
end partMine30
section partMine31
set_option autoImplicit false
section
variable {w : World} {A : Around} {E : Value → Shared → Prop} {s₀ s : Shared} {L : Addr} {m : Str → Option Value} {news ex : Nw} {env : Env} {mg mb : Str → Option Value}
theorem c_ell {a : Addr} {want got x0 : Str} {ws : List Str} {t u : Tok} {b : Bool} {Q : Value → Shared → Prop} (R : Room A 1) (G : Gl w mg mb s.heap) (F : FnAt s.heap (D 7) a)
    (hs : splitIs want x0 ws = true) (hf : fitS got x0 ws b = true) (h : ∀ s', Ext s s' → Q (.bool b) s') : wpAny (model P0 w) A (call (.ref a) [.str want t, .str got u]) Q E s := by
  unfold splitIs at hs
  simp only [Bool.and_eq_true, decide_eq_true_eq, beq_iff_eq, Bool.not_eq_true', List.isEmpty_eq_false_iff] at hs
  obtain ⟨⟨⟨⟨⟨h1, h2⟩, h3⟩, h4⟩, h5⟩, h6⟩ := hs
  unfold fitS at hf
  simp only [Bool.and_eq_true, decide_eq_true_eq, beq_iff_eq] at hf
  refine c_ellipsis R G F (by rw [containsS_eq]; exact h1) (by rw [splitS_eq]; exact h2) h5 h4 h3 hf.2 (fun x hx => by simpa using List.all_eq_true.mp h6 x hx) fun s' e => ?_
  rw [ellipsisS_eq, hf.1]
  exact h s' e
theorem strsAre_of : ∀ l : List (Str × Tok), StrsAre (strValues l) (l.map (·.1))
  | [] => .nil
  | (x, t) :: l => .cons x t (strsAre_of l)
theorem str_ext {x y : Str} (h : x.cps = y.cps) : x = y := by cases x; cases y; simp only at h; rw [h]
theorem seqS_iff {x y : Str} : (x.cps.toList == y.cps.toList) = seqS x y := rfl
end
end partMine31
section partMine32
set_option autoImplicit false
theorem ints_take {vs : List Value} {ns : List Int} (h : IntsAre vs ns) : ∀ n, IntsAre (vs.take n) (ns.take n) := by
  induction h with
  | nil => intro n; simp; exact .nil
  | cons x t _ ih =>
    intro n
    cases n with
    | zero => exact .nil
    | succ n => exact .cons x t (ih n)
theorem ints_drop {vs : List Value} {ns : List Int} (h : IntsAre vs ns) : ∀ n, IntsAre (vs.drop n) (ns.drop n) := by
  induction h with
  | nil => intro n; simp; exact .nil
  | cons x t h ih =>
    intro n
    cases n with
    | zero => exact .cons x t h
    | succ n => exact ih n
theorem put_bit (row : List Int) (r : Int) : putOf row r = 0 ∨ putOf row r = 1 := by unfold putOf; split; exact .inr rfl; exact .inl rfl
theorem due_bits {row : List Int} (h : Bits row) (r : Int) (p q : Nat) : Bits (row.take p ++ [putOf row r] ++ row.drop q) := by
  intro b hb
  rcases List.mem_append.mp hb with hb | hb
  · rcases List.mem_append.mp hb with hb | hb
    · exact h b (List.mem_of_mem_take hb)
    · rw [List.mem_singleton.mp hb]; exact put_bit row r
  · exact h b (List.mem_of_mem_drop hb)
theorem due_len (row : List Int) (r : Int) (p : Nat) : (row.take p ++ [putOf row r] ++ row.drop p).length = row.length + 1 := by
  simp only [List.length_append, List.length_take, List.length_drop, List.length_cons, List.length_nil]; omega
structure LD2 where
  o5 : Obj
  (tn tr : Tok)
  (ac Dr : Addr)
  l : List (Str × Tok)
  (kc kD : Nat)
  ys : List Value
structure LawL (d : LD) (e : LD2) (L : Addr) (m : Str → Option Value) (ex : Nw) : Prop where
  W : LawA d L m ex
  h5 : (L + 1 + 1 + 1 + 1 + 1, e.o5) ∈ ex ∧ e.o5.data = .cell (some (.int (sizeOf' d) e.tn))
  rest : m "rest" = some (.int (restOf d) e.tr)
  code : m "code" = some (.ref e.ac) ∧ (e.ac, lO (strValues e.l) e.kc) ∈ ex ∧ e.l.map (·.1) = (codeL (sizeOf' d) (restOf d)).map (wd d.i)
  rows : m "rows" = some (.ref e.Dr) ∧ (e.Dr, lO e.ys e.kD) ∈ ex ∧ All2 (RowIn ex) e.ys (rowsL (sizeOf' d) (fbOf d))
/-- the locals that the loop leaves alone -/
def SameL (m m' : Str → Option Value) : Prop := ∀ x ∈ (["first", "second", "both", "rest", "code", "rows"] : List Str), m' x = m x
theorem SameL.trans {a b c : Str → Option Value} (x : SameL a b) (y : SameL b c) : SameL a c := fun n h => (y n h).trans (x n h)
section
variable {w : World} {A : Around} {E : Value → Shared → Prop} {s₀ s : Shared} {L : Addr} {m m' : Str → Option Value} {news ex ex' : Nw} {env : Env} {mg mb : Str → Option Value} {d : LD} {e : LD2}
theorem LawL.keeps (H : LawL d e L m ex) (hk : KeepsNw (L + 1 + 1 + 1 + 1 + 1 + 1) ex ex') (hm : SameL m m') : LawL d e L m' ex' :=
  ⟨H.W.keeps hk (hm _ (by simp)) (hm _ (by simp)) (hm _ (by simp)), ⟨hk.ne _ H.h5.1 (Nat.ne_of_lt (Nat.lt_succ_self _)), H.h5.2⟩, (hm _ (by simp)).trans H.rest, ⟨(hm _ (by simp)).trans H.code.1, hk.l _ _ _ H.code.2.1, H.code.2.2⟩,
    ⟨(hm _ (by simp)).trans H.rows.1, hk.l _ _ _ H.rows.2.1, H.rows.2.2.imp fun _ _ x => let ⟨a, vs, n, h1, h2, h3⟩ := x; ⟨a, vs, n, h1, hk.l _ _ _ h2, h3⟩⟩⟩
abbrev bodyE : List Stmt := match (D 24).body[10]? with | some (Stmt.For _ _ b _ _) => b | _ => []
set_option maxHeartbeats 1000000 in
/-- row, place, put, plain, due -/
theorem law_turn1 {a : Addr} {cd : Value} {j : Nat} {tj : Tok} {Q : Flow → Shared → Prop} (R : Room A 3) (G : Gl w mg mb s₀.heap) (S : St s₀ L m ex s) (H : LawL d e L m ex) (hj : j < 8) (hn : m "number" = some (.int j tj))
    (h : ∀ row ar ws kk m' ex' s' tp tu ta tb, (rowsL (sizeOf' d) (fbOf d))[j]? = some row → (ar, lO ws kk) ∈ ex' → IntsAre ws row → (∀ p ∈ ex, p ∈ ex') → SameL m m' → m' "number" = some (.int j tj) → m' "row" = some (.ref ar) →
      m' "place" = some (.int (placeOf row (restOf d)) tp) → m' "put" = some (.int (putOf row (restOf d)) tu) → m' "plain" = some (.str (wd d.i row) ta) → m' "due" = some (.str (wd d.i (dueRow row (restOf d))) tb) →
      St s₀ L m' ex' s' → wpAny (model P0 w) A (execs (bodyE.drop 4) (lawE L a cd)) Q (fun _ _ => False) s') :
    wpAny (model P0 w) A (execs bodyE (lawE L a cd)) Q (fun _ _ => False) s := by
  have hh := R.handled
  obtain ⟨f1, hf1, F1⟩ := G.at 23 (by decide) "_law_mended" (by kernel_rfl)
  obtain ⟨f2, hf2, F2⟩ := G.at 19 (by decide) "_law_word" (by kernel_rfl)
  have hlen : (rowsL (sizeOf' d) (fbOf d)).length = 8 := by unfold rowsL; rw [List.length_map, rowsOf_len]
  obtain ⟨row, hrow⟩ : ∃ row, (rowsL (sizeOf' d) (fbOf d))[j]? = some row := ⟨_, List.getElem?_eq_getElem (by omega)⟩
  obtain ⟨v, hv, ar, ws, kk, rfl, hmem, hints⟩ := H.rows.2.2.get hrow
  have hrb : row.length ≤ 4 ∧ Bits row := by
    unfold rowsL at hrow
    rw [List.getElem?_map] at hrow
    cases hq : (rowsOf 3)[j]? with
    | none => rw [hq] at hrow; cases hrow
    | some r0 =>
      rw [hq] at hrow
      have hr0 := rowsOf_mem 3 r0 (List.mem_of_getElem? hq)
      have : List.replicate (sizeOf' d - 4) (fbOf d) ++ r0 = row := by simpa using hrow
      subst this
      have hs := size_cases d
      refine ⟨by rw [List.length_append, List.length_replicate, hr0.1]; omega, fun b hb => ?_⟩
      rcases List.mem_append.mp hb with q | q
      · rw [List.eq_of_mem_replicate q]
        have := fmod_lt (i := (d.cs.getD 1 0).fdiv 6) (n := 2) (by decide)
        unfold fbOf; omega
      · exact hr0.2 b q
  refine wpAny_execs_cons ?_
  walk_at "as"
  with_reducible refine Subscript_ ?_
  refine r_local S (v := .ref e.Dr) (by exact H.rows.1) ?_ (by kernel_rfl) (by kernel_rfl) (by kernel_rfl) (by kernel_rfl)
  refine r_local S (v := .int j tj) (by exact hn) ?_ (by kernel_rfl) (by kernel_rfl) (by kernel_rfl) (by kernel_rfl)
  refine r_itemlist (lO_list (S.mem H.rows.2.1)) (by omega) (by omega) (by simpa using hv) ?_
  walk_at "st"
  rename_i s₂ S₂
  walk_at "ec"
  refine Assign_Tuple ?_ (by kernel_rfl) (by kernel_rfl)
  walk_at "call"
  walk_at "gl"
  refine r_callfn F1 ?_ nofun
  walk_at "more"
  walk_at "ld"
  walk_at "more"
  refine r_local S₂ (v := .int (restOf d) e.tr) (by exact H.rest) ?_ (by kernel_rfl) (by kernel_rfl) (by kernel_rfl) (by kernel_rfl)
  walk_at "sp0"
  refine ⟨fun o e => S₂.base e, ?_⟩
  refine c_mended (R.less (by decide)) (G.keeps S₂.fr.keep) (F1.keeps S₂.fr.keep) (lO_list (S₂.mem hmem)) hints hrb.2 (by omega) fun Dt tp tu s₃ Md => ?_
  have S₃ := S₂.join Md
  refine r_unpackTo S₃ hh (S₃.mem (.head _)) (by kernel_rfl) (by kernel_rfl) fun s₄ S₄ => ?_
  refine assignInOrder_cons ?_
  refine PyProof.Rows.assign_Name ?_
  walk_at "st"
  rename_i s₅ S₅
  refine assignInOrder_cons ?_
  refine PyProof.Rows.assign_Name ?_
  walk_at "st"
  rename_i s₆ S₆
  refine assignInOrder_nil ?_
  have hin : ∀ p ∈ ex, p ∈ [(Dt, tO [Value.int (placeOf row (restOf d)) tp, .int (putOf row (restOf d)) tu])] ++ ex := fun p hp => .tail _ hp
  -- plain
  walk_at "ec"
  walk_at "as"
  walk_at "call"
  walk_at "gl"
  refine r_callfn F2 ?_ nofun
  walk_at "more"
  refine r_cell (by kernel_rfl) ⟨d.o4, S₆.mem (hin _ H.W.pair.1), H.W.pair.2.1⟩ ?_ (by kernel_rfl) (by kernel_rfl) (by kernel_rfl)
  walk_at "more"
  walk_at "ld"
  walk_at "sp0"
  refine ⟨fun o e => S₆.base e, ?_⟩
  refine c_word (R.less (by decide)) (G.keeps S₆.fr.keep) (F2.keeps S₆.fr.keep) (S₆.mem (hin _ H.W.pair.2.2)) (lO_list (S₆.mem (hin _ hmem))) hints hrb.2 (by omega) (by show 1 ≤ 100; decide) (by show 1 ≤ 100; decide) fun t₇ s₇ e₇ => ?_
  have S₇ := S₆.step e₇
  walk_at "st"
  rename_i s₈ S₈
  -- due
  walk_at "ec"
  walk_at "as"
  walk_at "call"
  walk_at "gl"
  refine r_callfn F2 ?_ nofun
  walk_at "more"
  refine r_cell (by kernel_rfl) ⟨d.o4, S₈.mem (hin _ H.W.pair.1), H.W.pair.2.1⟩ ?_ (by kernel_rfl) (by kernel_rfl) (by kernel_rfl)
  walk_at "more"
  with_reducible refine wpAny_BinOp ?_
  with_reducible refine wpAny_BinOp ?_
  with_reducible refine Subscript_ ?_
  walk_at "ld"
  refine r_slicelist (s₀ := s₀) (L := L) ?_
  refine evalPart_none_step ?_
  refine evalPart_some_step ?_
  walk_at "ld"
  have hwl := ints_len hints
  refine ⟨_, _, ws.toArray, ws.take (placeOf row (restOf d)), _, _, .none, .int _ _, S₈, lO_list (S₈.mem (hin _ hmem)), by rw [List.size_toArray]; omega, by rw [slicePick_upto'], fun b1 s₉ S₉ => ?_⟩
  with_reducible refine List_ ?_
  walk_at "more"
  walk_at "ld"
  walk_at "sp0"
  refine r_newlist S₉ (by simp) fun b2 s₁₀ S₁₀ => ?_
  refine r_addlist S₁₀ (lO_list (S₁₀.mem (.tail _ (.head _)))) (lO_list (S₁₀.mem (.head _))) (by rw [List.length_take]; simp; omega) fun b3 s₁₁ S₁₁ => ?_
  with_reducible refine Subscript_ ?_
  walk_at "ld"
  refine r_slicelist (s₀ := s₀) (L := L) ?_
  refine evalPart_some_step ?_
  walk_at "ld"
  refine evalPart_none_step ?_
  refine ⟨_, _, ws.toArray, ws.drop (placeOf row (restOf d)), _, _, .int _ _, .none, S₁₁, lO_list (S₁₁.mem (.tail _ (.tail _ (.tail _ (hin _ hmem))))), by rw [List.size_toArray]; omega, by rw [slicePick_from'], fun b4 s₁₂ S₁₂ => ?_⟩
  refine r_addlist S₁₂ (lO_list (S₁₂.mem (.tail _ (.head _)))) (lO_list (S₁₂.mem (.head _))) (by simp [List.length_take]; omega) fun b5 s₁₃ S₁₃ => ?_
  walk_at "sp0"
  refine ⟨fun o e => S₁₃.base e, ?_⟩
  have hdi : IntsAre ((ws.take (placeOf row (restOf d)) ++ [.int (putOf row (restOf d)) tu]) ++ ws.drop (placeOf row (restOf d))) (dueRow row (restOf d)) := ints_app (ints_app (ints_take hints _) (.cons _ _ .nil)) (ints_drop hints _)
  have hin5 : ∀ p ∈ ex, p ∈ (b5, lO ((ws.take (placeOf row (restOf d)) ++ [.int (putOf row (restOf d)) tu]) ++ ws.drop (placeOf row (restOf d))) 0) :: (b4, lO (ws.drop (placeOf row (restOf d))) 0) :: (b3, lO (ws.take (placeOf row (restOf d)) ++ [.int (putOf row (restOf d)) tu]) 0) :: (b2, lO [.int (putOf row (restOf d)) tu] 0) :: (b1, lO (ws.take (placeOf row (restOf d))) 0) :: ([(Dt, tO [Value.int (placeOf row (restOf d)) tp, .int (putOf row (restOf d)) tu])] ++ ex) := fun p hp => .tail _ (.tail _ (.tail _ (.tail _ (.tail _ (hin p hp)))))
  refine c_word (R.less (by decide)) (G.keeps S₁₃.fr.keep) (F2.keeps S₁₃.fr.keep) (S₁₃.mem (hin5 _ H.W.pair.2.2)) (lO_list (S₁₃.mem (.head _))) hdi (due_bits hrb.2 _ _ _) (by have := due_len row (restOf d) (placeOf row (restOf d)); unfold dueRow; omega) (by show 1 ≤ 100; decide) (by show 1 ≤ 100; decide) fun t₁₄ s₁₄ e₁₄ => ?_
  have S₁₄ := S₁₃.step e₁₄
  walk_at "st"
  rename_i s₁₅ S₁₅
  refine h row ar ws kk _ _ s₁₅ tp tu t₇ t₁₄ hrow (hin5 _ hmem) hints hin5 (fun x hx => ?_) ?_ ?_ ?_ ?_ ?_ ?_ S₁₅
  · have : ∀ x ∈ (["first", "second", "both", "rest", "code", "rows"] : List Str), x ≠ "due" ∧ x ≠ "plain" ∧ x ≠ "put" ∧ x ≠ "place" ∧ x ≠ "row" := by decide +kernel
    obtain ⟨q1, q2, q3, q4, q5⟩ := this x hx
    simp only [if_neg q1, if_neg q2, if_neg q3, if_neg q4, if_neg q5]
  · exact hn
  all_goals rfl
end
end partMine32
section partMine33
set_option autoImplicit false
section
variable {w : World} {A : Around} {E : Value → Shared → Prop} {s₀ s : Shared} {L : Addr} {m m' : Str → Option Value} {news ex ex' : Nw} {env : Env} {mg mb : Str → Option Value} {d : LD} {e : LD2}
theorem r_mul {a b : Int} {t u : Tok} {Q : Value → Shared → Prop} (S : St s₀ L m news s) (hm : IntMulOk a b) (h : ∀ t s', St s₀ L m news s' → Q (.int (a * b) t) s') : wpAny (model P0 w) A (binaryOp .Mult (.int a t) (.int b u)) Q E s := mul_int (h _ _ S.tok) hm
set_option maxHeartbeats 2000000 in
/-- signs, told, stays -/
theorem law_turn2 {a : Addr} {cd : Value} {j : Nat} {tj : Tok} {row : List Int} {ar : Addr} {ws : List Value} {kk : Nat} {tp : Tok} {Q : Flow → Shared → Prop} (R : Room A 3) (G : Gl w mg mb s₀.heap) (S : St s₀ L m ex s) (W : LawA d L m ex) (hn : m "number" = some (.int j tj))
    (hb : Bits row) (hl : row.length ≤ 4) (hmem : (ar, lO ws kk) ∈ ex) (hints : IntsAre ws row) (hrow : m "row" = some (.ref ar)) (hpl : m "place" = some (.int (placeOf row (restOf d)) tp)) (hp : placeOf row (restOf d) ≤ row.length)
    (h : ∀ sa ys k cs m' ex' s' ta tb (st : Int), (∀ p ∈ ex, p ∈ ex') → (∀ x : Str, x ≠ "signs" → x ≠ "told" → x ≠ "stays" → m' x = m x) → (sa, lO ys k) ∈ ex' → ChAre ys cs → All2 (Spells d.i) cs row → m' "signs" = some (.ref sa) →
      m' "told" = some (.str (wd d.i row) ta) → m' "stays" = some (.str ⟨#[st.toNat]⟩ tb) → SignOk st.toNat → prep1 st.toNat = ⟨#[st.toNat]⟩ →
      St s₀ L m' ex' s' → wpAny (model P0 w) A (execs (bodyE.drop 7) (lawE L a cd)) Q (fun _ _ => False) s') :
    wpAny (model P0 w) A (execs (bodyE.drop 4) (lawE L a cd)) Q (fun _ _ => False) s := by
  have hh := R.handled
  obtain ⟨gl0, gl1⟩ := g_len d.i W.hi
  obtain ⟨f1, hf1, F1⟩ := G.at 20 (by decide) "_law_spelled" (by kernel_rfl)
  obtain ⟨f2, hf2, F2⟩ := G.at 21 (by decide) "_law_prepared" (by kernel_rfl)
  obtain ⟨f3, hf3, F3⟩ := G.at 16 (by decide) "_law_unseen" (by kernel_rfl)
  obtain ⟨f4, hf4, F4⟩ := G.at 17 (by decide) "_law_beside" (by kernel_rfl)
  have hcell : ∀ {m' nw' s'}, St s₀ L m' nw' s' → (∀ p ∈ ex, p ∈ nw') → s'.heap.IsCell (L + 1 + 1 + 1) (some (.ref d.cl)) ∧ s'.heap.IsList d.cl d.vsC.toArray := fun S' hx => ⟨⟨d.o3, S'.mem (hx _ W.cells.1), W.cells.2.1⟩, lO_list (S'.mem (hx _ W.cells.2.2.1))⟩
  -- signs
  refine wpAny_execs_cons ?_
  walk_at "as"
  walk_at "call"
  walk_at "gl"
  refine r_callfn F1 ?_ nofun
  walk_at "more"
  with_reducible refine Tuple_ ?_
  walk_at "more"
  refine r_local S (v := .ref d.l1) (by exact W.first.1) ?_ (by kernel_rfl) (by kernel_rfl) (by kernel_rfl) (by kernel_rfl)
  walk_at "more"
  refine r_local S (v := .ref d.l2) (by exact W.second.1) ?_ (by kernel_rfl) (by kernel_rfl) (by kernel_rfl) (by kernel_rfl)
  walk_at "sp0"
  refine r_newtuple S (by simp) fun pt s₂ S₂ => ?_
  walk_at "more"
  refine r_local S₂ (v := .ref ar) (by exact hrow) ?_ (by kernel_rfl) (by kernel_rfl) (by kernel_rfl) (by kernel_rfl)
  walk_at "more"
  with_reducible refine wpAny_BinOp ?_
  with_reducible refine Subscript_ ?_
  refine r_cell (by kernel_rfl) (hcell S₂ fun _ hp => .tail _ hp).1 ?_ (by kernel_rfl) (by kernel_rfl) (by kernel_rfl)
  refine r_int S₂ fun t₃ s₃ S₃ => ?_
  refine r_item_ints (hcell S₃ fun _ hp => .tail _ hp).2 W.cells.2.2.2.1 (by decide) (by rw [W.cells.2.2.2.2.1]; decide) (by rw [W.cells.2.2.2.2.1]; decide) fun u₃ => ?_
  with_reducible refine wpAny_BinOp ?_
  refine r_int S₃ fun t₄ s₄ S₄ => ?_
  refine r_local S₄ (v := .int j tj) (by exact hn) ?_ (by kernel_rfl) (by kernel_rfl) (by kernel_rfl) (by kernel_rfl)
  refine r_mul S₄ (by mul_fits) fun t₅ s₅ S₅ => ?_
  refine r_add S₅ fun t₆ s₆ S₆ => ?_
  walk_at "sp0"
  refine ⟨fun o e => S₆.base e, ?_⟩
  refine c_spelled (R.less (by decide)) (G.keeps S₆.fr.keep) (F1.keeps S₆.fr.keep) (S₆.mem (.head _)) (lO_list (S₆.mem (.tail _ W.first.2.1))) (lO_list (S₆.mem (.tail _ W.second.2.1))) W.first.2.2 W.second.2.2 gl0 gl1 (lO_list (S₆.mem (.tail _ hmem))) hints hb (by omega) fun sa ys k s₇ Md hch => ?_
  have hsp := spelled_all W.hi hb ((d.cs.getD (Int.toNat 2) 0) + 7 * (j : Int))
  generalize hcs : spelledOf (g0 d.i) (g1 d.i) row ((d.cs.getD (Int.toNat 2) 0) + 7 * (j : Int)) = cs at hsp
  have hch : ChAre ys cs := hcs ▸ hch
  have hcl := hsp.length
  have hyl := hch.length
  have S₇ := S₆.join Md
  obtain ⟨N, S₇, hN, hsa⟩ : ∃ N, St s₀ L m N s₇ ∧ (∀ p ∈ ex, p ∈ N) ∧ (sa, lO ys k) ∈ N := ⟨_, S₇, fun p hp => .tail _ (.tail _ hp), .head _⟩
  walk_at "st"
  rename_i s₈ S₈
  -- told
  walk_at "ec"
  walk_at "as"
  walk_at "call"
  walk_at "gl"
  refine r_callfn F2 ?_ nofun
  walk_at "more"
  with_reducible refine wpAny_BinOp ?_
  with_reducible refine wpAny_BinOp ?_
  with_reducible refine Subscript_ ?_
  walk_at "ld"
  refine r_slicelist (s₀ := s₀) (L := L) ?_
  refine evalPart_none_step ?_
  refine evalPart_some_step ?_
  refine r_local S₈ (v := .int (placeOf row (restOf d)) tp) (by exact hpl) ?_ (by kernel_rfl) (by kernel_rfl) (by kernel_rfl) (by kernel_rfl)
  refine ⟨_, _, ys.toArray, ys.take (placeOf row (restOf d)), _, _, .none, .int _ _, S₈, lO_list (S₈.mem hsa), by rw [List.size_toArray]; omega, by rw [slicePick_upto'], fun b1 s₉ S₉ => ?_⟩
  with_reducible refine List_ ?_
  walk_at "more"
  walk_at "call"
  walk_at "gl"
  refine r_callfn F3 ?_ nofun
  walk_at "more"
  with_reducible refine wpAny_BinOp ?_
  with_reducible refine Subscript_ ?_
  refine r_cell (by kernel_rfl) (hcell S₉ fun _ hp => .tail _ (hN _ hp)).1 ?_ (by kernel_rfl) (by kernel_rfl) (by kernel_rfl)
  refine r_int S₉ fun t₁₀ s₁₀ S₁₀ => ?_
  refine r_item_ints (hcell S₁₀ fun _ hp => .tail _ (hN _ hp)).2 W.cells.2.2.2.1 (by decide) (by rw [W.cells.2.2.2.2.1]; decide) (by rw [W.cells.2.2.2.2.1]; decide) fun u₁₀ => ?_
  refine r_local S₁₀ (v := .int j tj) (by exact hn) ?_ (by kernel_rfl) (by kernel_rfl) (by kernel_rfl) (by kernel_rfl)
  refine r_add S₁₀ fun t₁₁ s₁₁ S₁₁ => ?_
  walk_at "sp0"
  refine ⟨fun o e => S₁₁.base e, ?_⟩
  refine c_unseen (R.less (by decide)) (G.keeps S₁₁.fr.keep) (F3.keeps S₁₁.fr.keep) fun t₁₂ s₁₂ e₁₂ => ?_
  have hun := unseen_ok ((d.cs.getD (Int.toNat 3) 0) + (j : Int))
  generalize (unseenC ((d.cs.getD (Int.toNat 3) 0) + (j : Int))).toNat = un at hun
  have S₁₂ := S₁₁.step e₁₂
  walk_at "sp0"
  refine r_newlist S₁₂ (by simp) fun b2 s₁₃ S₁₃ => ?_
  refine r_addlist S₁₃ (lO_list (S₁₃.mem (.tail _ (.head _)))) (lO_list (S₁₃.mem (.head _))) (by simp [List.length_take]; omega) fun b3 s₁₄ S₁₄ => ?_
  with_reducible refine Subscript_ ?_
  walk_at "ld"
  refine r_slicelist (s₀ := s₀) (L := L) ?_
  refine evalPart_some_step ?_
  refine r_local S₁₄ (v := .int (placeOf row (restOf d)) tp) (by exact hpl) ?_ (by kernel_rfl) (by kernel_rfl) (by kernel_rfl) (by kernel_rfl)
  refine evalPart_none_step ?_
  refine ⟨_, _, ys.toArray, ys.drop (placeOf row (restOf d)), _, _, .int _ _, .none, S₁₄, lO_list (S₁₄.mem (.tail _ (.tail _ (.tail _ hsa)))), by rw [List.size_toArray]; omega, by rw [slicePick_from'], fun b4 s₁₅ S₁₅ => ?_⟩
  refine r_addlist S₁₅ (lO_list (S₁₅.mem (.tail _ (.head _)))) (lO_list (S₁₅.mem (.head _))) (by simp [List.length_take]; omega) fun b5 s₁₆ S₁₆ => ?_
  walk_at "sp0"
  refine ⟨fun o e => S₁₆.base e, ?_⟩
  obtain ⟨q1, q2⟩ := told_put hsp (placeOf row (restOf d)) (placeOf row (restOf d)) un hun.1
  refine c_prepared R (G.keeps S₁₆.fr.keep) (F2.keeps S₁₆.fr.keep) (lO_list (S₁₆.mem (.head _))) ((((hch.take _).append (.cons un t₁₂ .nil))).append (hch.drop _)) q2 (by simp [List.length_take]; omega) fun ta s₁₇ e₁₇ => ?_
  rw [q1, hun.2, append_empty', ← wd_append, List.take_append_drop]
  have S₁₇ := S₁₆.step e₁₇
  obtain ⟨N2, S₁₇, hN2⟩ : ∃ N2, St s₀ L _ N2 s₁₇ ∧ (∀ p ∈ N, p ∈ N2) := ⟨_, S₁₇, fun p hp => .tail _ (.tail _ (.tail _ (.tail _ (.tail _ hp))))⟩
  walk_at "st"
  rename_i s₁₈ S₁₈
  -- stays
  walk_at "ec"
  walk_at "as"
  walk_at "call"
  walk_at "gl"
  refine r_callfn F4 ?_ nofun
  walk_at "more"
  with_reducible refine wpAny_BinOp ?_
  with_reducible refine Subscript_ ?_
  refine r_cell (by kernel_rfl) (hcell S₁₈ fun _ hp => hN2 _ (hN _ hp)).1 ?_ (by kernel_rfl) (by kernel_rfl) (by kernel_rfl)
  refine r_int S₁₈ fun t₁₉ s₁₉ S₁₉ => ?_
  refine r_item_ints (hcell S₁₉ fun _ hp => hN2 _ (hN _ hp)).2 W.cells.2.2.2.1 (by decide) (by rw [W.cells.2.2.2.2.1]; decide) (by rw [W.cells.2.2.2.2.1]; decide) fun u₁₉ => ?_
  refine r_local S₁₉ (v := .int j tj) (by exact hn) ?_ (by kernel_rfl) (by kernel_rfl) (by kernel_rfl) (by kernel_rfl)
  refine r_add S₁₉ fun t₂₀ s₂₀ S₂₀ => ?_
  walk_at "sp0"
  refine ⟨fun o e => S₂₀.base e, ?_⟩
  refine c_beside (R.less (by decide)) (G.keeps S₂₀.fr.keep) (F4.keeps S₂₀.fr.keep) fun tb s₂₁ e₂₁ => ?_
  have hbe := beside_ok ((d.cs.getD (Int.toNat 3) 0) + (j : Int))
  have S₂₁ := S₂₀.step e₂₁
  walk_at "st"
  rename_i s₂₂ S₂₂
  refine h sa ys k cs _ N2 s₂₂ ta tb _ (fun p hp => hN2 _ (hN _ hp)) (fun x x1 x2 x3 => ?_) (hN2 _ hsa) hch hsp rfl rfl rfl hbe.1 hbe.2 S₂₂
  simp only [if_neg x1, if_neg x2, if_neg x3]
end
end partMine33
section partMine34
set_option autoImplicit false
section
variable {w : World} {A : Around} {E : Value → Shared → Prop} {s₀ s : Shared} {L : Addr} {m m' : Str → Option Value} {news ex ex' : Nw} {env : Env} {mg mb : Str → Option Value} {d : LD} {e : LD2}
theorem cutAt_eq {i p : Nat} {row : List Int} (h : cutAt i row p = true) : Txt.slice (wd i row) none (some (p : Int)) = wd i (row.take p) ∧ Txt.slice (wd i row) (some (p : Int)) none = wd i (row.drop p) := by
  unfold cutAt at h
  simpa only [Bool.and_eq_true, beq_iff_eq] using h
theorem wd_len (i : Nat) (bs : List Int) : (wd i bs).length = bs.length := by
  unfold wd
  rw [word_cps]
  show (List.toArray _).size = _
  simp
set_option maxHeartbeats 2000000 in
/-- told, the sign beside, due in code -/
theorem law_turn3 {a : Addr} {cd : Value} {row : List Int} {sa : Addr} {ys : List Value} {k st : Nat} {cs : List Nat} {tp ta tb tc td : Tok} {Q : Flow → Shared → Prop} (R : Room A 3) (G : Gl w mg mb s₀.heap) (S : St s₀ L m ex s) (H : LawL d e L m ex)
    (hl : row.length ≤ 4) (hpl : m "place" = some (.int (placeOf row (restOf d)) tp)) (hp : placeOf row (restOf d) ≤ row.length) (hsa : (sa, lO ys k) ∈ ex) (hch : ChAre ys cs) (hsp : All2 (Spells d.i) cs row) (hsi : m "signs" = some (.ref sa))
    (hto : m "told" = some (.str (wd d.i row) ta)) (hpn : m "plain" = some (.str (wd d.i row) tc)) (hst : m "stays" = some (.str ⟨#[st]⟩ tb)) (hdu : m "due" = some (.str (wd d.i (dueRow row (restOf d))) td)) (ok : SignOk st) (pr : prep1 st = ⟨#[st]⟩)
    (hcut : cutAt d.i row (placeOf row (restOf d)) = true) (hin : (codeL (sizeOf' d) (restOf d)).contains (dueRow row (restOf d)) = true)
    (h : ∀ ex' s', (∀ p ∈ ex, p ∈ ex') → St s₀ L m ex' s' → wpAny (model P0 w) A (execs (bodyE.drop 9) (lawE L a cd)) Q (fun _ _ => False) s') :
    wpAny (model P0 w) A (execs (bodyE.drop 7) (lawE L a cd)) Q (fun _ _ => False) s := by
  have hh := R.handled
  obtain ⟨c1, c2⟩ := cutAt_eq hcut
  obtain ⟨f2, hf2, F2⟩ := G.at 21 (by decide) "_law_prepared" (by kernel_rfl)
  have hcl := hsp.length
  have hyl := hch.length
  have hwl := wd_len d.i row
  have hw1 := wd_len d.i (row.take (placeOf row (restOf d)))
  have hw2 := wd_len d.i (row.drop (placeOf row (restOf d)))
  rw [List.length_take] at hw1
  rw [List.length_drop] at hw2
  refine wpAny_execs_cons ?_
  refine wpAny_If ?_
  refine isTrue_or ?_
  refine wpAny_isTrue_Compare1 ?_
  refine r_local S (v := .str (wd d.i row) ta) (by exact hto) ?_ (by kernel_rfl) (by kernel_rfl) (by kernel_rfl) (by kernel_rfl)
  refine r_local S (v := .str (wd d.i row) tc) (by exact hpn) ?_ (by kernel_rfl) (by kernel_rfl) (by kernel_rfl) (by kernel_rfl)
  refine P.ne_str ?_
  refine wpAny_truthy_bool ?_
  rw [bne_self_eq_false, if_neg (by decide)]
  refine isTrue_or ?_
  refine wpAny_isTrue_Compare1 ?_
  walk_at "call"
  walk_at "gl"
  refine r_callfn F2 ?_ nofun
  walk_at "more"
  with_reducible refine wpAny_BinOp ?_
  with_reducible refine wpAny_BinOp ?_
  with_reducible refine Subscript_ ?_
  refine r_local S (v := .ref sa) (by exact hsi) ?_ (by kernel_rfl) (by kernel_rfl) (by kernel_rfl) (by kernel_rfl)
  refine r_slicelist (s₀ := s₀) (L := L) ?_
  refine evalPart_none_step ?_
  refine evalPart_some_step ?_
  refine r_local S (v := .int (placeOf row (restOf d)) tp) (by exact hpl) ?_ (by kernel_rfl) (by kernel_rfl) (by kernel_rfl) (by kernel_rfl)
  refine ⟨_, _, ys.toArray, ys.take (placeOf row (restOf d)), _, _, .none, .int _ _, S, lO_list (S.mem hsa), by rw [List.size_toArray]; omega, by rw [slicePick_upto'], fun b1 s₉ S₉ => ?_⟩
  with_reducible refine List_ ?_
  walk_at "more"
  refine r_local S₉ (v := .str ⟨#[st]⟩ tb) (by exact hst) ?_ (by kernel_rfl) (by kernel_rfl) (by kernel_rfl) (by kernel_rfl)
  walk_at "sp0"
  refine r_newlist S₉ (by simp) fun b2 s₁₃ S₁₃ => ?_
  refine r_addlist S₁₃ (lO_list (S₁₃.mem (.tail _ (.head _)))) (lO_list (S₁₃.mem (.head _))) (by simp [List.length_take]; omega) fun b3 s₁₄ S₁₄ => ?_
  with_reducible refine Subscript_ ?_
  refine r_local S₁₄ (v := .ref sa) (by exact hsi) ?_ (by kernel_rfl) (by kernel_rfl) (by kernel_rfl) (by kernel_rfl)
  refine r_slicelist (s₀ := s₀) (L := L) ?_
  refine evalPart_some_step ?_
  refine r_local S₁₄ (v := .int (placeOf row (restOf d)) tp) (by exact hpl) ?_ (by kernel_rfl) (by kernel_rfl) (by kernel_rfl) (by kernel_rfl)
  refine evalPart_none_step ?_
  refine ⟨_, _, ys.toArray, ys.drop (placeOf row (restOf d)), _, _, .int _ _, .none, S₁₄, lO_list (S₁₄.mem (.tail _ (.tail _ (.tail _ hsa)))), by rw [List.size_toArray]; omega, by rw [slicePick_from'], fun b4 s₁₅ S₁₅ => ?_⟩
  refine r_addlist S₁₅ (lO_list (S₁₅.mem (.tail _ (.head _)))) (lO_list (S₁₅.mem (.head _))) (by simp [List.length_take]; omega) fun b5 s₁₆ S₁₆ => ?_
  walk_at "sp0"
  refine ⟨fun o e => S₁₆.base e, ?_⟩
  obtain ⟨q1, q2⟩ := told_put hsp (placeOf row (restOf d)) (placeOf row (restOf d)) st ok
  refine c_prepared R (G.keeps S₁₆.fr.keep) (F2.keeps S₁₆.fr.keep) (lO_list (S₁₆.mem (.head _))) ((((hch.take _).append (.cons st tb .nil))).append (hch.drop _)) q2 (by simp [List.length_take]; omega) fun tx s₁₇ e₁₇ => ?_
  rw [q1, pr]
  have S₁₇ := S₁₆.step e₁₇
  with_reducible refine wpAny_BinOp ?_
  with_reducible refine wpAny_BinOp ?_
  with_reducible refine Subscript_ ?_
  refine r_local S₁₇ (v := .str (wd d.i row) tc) (by exact hpn) ?_ (by kernel_rfl) (by kernel_rfl) (by kernel_rfl) (by kernel_rfl)
  refine r_sliceto (s₀ := s₀) (L := L) ?_
  refine r_local S₁₇ (v := .int (placeOf row (restOf d)) tp) (by exact hpl) ?_ (by kernel_rfl) (by kernel_rfl) (by kernel_rfl) (by kernel_rfl)
  refine ⟨_, _, _, _, rfl, S₁₇, by omega, fun t1 s₁₈ S₁₈ => ?_⟩
  rw [c1]
  refine r_local S₁₈ (v := .str ⟨#[st]⟩ tb) (by exact hst) ?_ (by kernel_rfl) (by kernel_rfl) (by kernel_rfl) (by kernel_rfl)
  have h1 : (⟨#[st]⟩ : Str).length = 1 := rfl
  refine r_addstr S₁₈ (by omega) fun t2 s₁₉ S₁₉ => ?_
  with_reducible refine Subscript_ ?_
  refine r_local S₁₉ (v := .str (wd d.i row) tc) (by exact hpn) ?_ (by kernel_rfl) (by kernel_rfl) (by kernel_rfl) (by kernel_rfl)
  refine r_slicefrom (s₀ := s₀) (L := L) ?_
  refine r_local S₁₉ (v := .int (placeOf row (restOf d)) tp) (by exact hpl) ?_ (by kernel_rfl) (by kernel_rfl) (by kernel_rfl) (by kernel_rfl)
  refine ⟨_, _, _, _, rfl, S₁₉, by omega, fun t3 s₂₀ S₂₀ => ?_⟩
  rw [c2]
  refine r_addstr S₂₀ (by rw [Str.length_append]; omega) fun t4 s₂₁ S₂₁ => ?_
  refine P.ne_str ?_
  refine wpAny_truthy_bool ?_
  rw [bne_self_eq_false, if_neg (by decide)]
  refine isTrue_or_nil ?_
  rw [if_neg (by decide)]
  refine wpAny_execs_nil ?_
  have S₂₁ : St s₀ L m ex s₂₁ := S₂₁.weaken (by exact List.Sublist.cons _ (List.Sublist.cons _ (List.Sublist.cons _ (List.Sublist.cons _ (List.Sublist.cons _ (List.Sublist.refl _))))))
  walk_at "ec"
  walk_at "if"
  refine r_local S₂₁ (v := .str (wd d.i (dueRow row (restOf d))) td) (by exact hdu) ?_ (by kernel_rfl) (by kernel_rfl) (by kernel_rfl) (by kernel_rfl)
  refine r_local S₂₁ (v := .ref e.ac) (by exact H.code.1) ?_ (by kernel_rfl) (by kernel_rfl) (by kernel_rfl) (by kernel_rfl)
  refine notin_list_strs (lO_list (S₂₁.mem H.code.2.1)) (strsAre_of e.l) ?_
  refine wpAny_truthy_bool ?_
  have hany : ((e.l.map (·.1)).any fun x => x == wd d.i (dueRow row (restOf d))) = true := by
    rw [H.code.2.2, List.any_map, List.any_eq_true]
    exact ⟨_, List.contains_iff_mem.mp hin, by simp⟩
  rw [hany]
  rw [if_neg (by decide)]
  refine wpAny_execs_nil ?_
  exact h ex s₂₁ (fun _ hp => hp) S₂₁
end
end partMine34
section partMine35
set_option autoImplicit false
section
variable {w : World} {A : Around} {E : Value → Shared → Prop} {s₀ s : Shared} {L : Addr} {m m' : Str → Option Value} {news ex ex' : Nw} {env : Env} {mg mb : Str → Option Value} {d : LD} {e : LD2}
theorem strValues_at {l : List (Str × Tok)} {j : Nat} {v : Value} (h : (strValues l)[j]? = some v) : ∃ x t, l[j]? = some (x, t) ∧ v = .str x t := by
  unfold strValues at h
  rw [List.getElem?_map] at h
  cases hx : l[j]? with
  | none => rw [hx] at h; cases h
  | some x => rw [hx] at h; exact ⟨x.1, x.2, rfl, by simpa using h.symm⟩
set_option maxHeartbeats 2000000 in
/-- each word of the code -/
theorem law_turn4 {a : Addr} {cd : Value} {row : List Int} {o6 : Obj} {v6 : Option Value} {ta td : Tok} {Q : Flow → Shared → Prop} (R : Room A 3) (G : Gl w mg mb s₀.heap) (S : St s₀ L m ex s) (H : LawL d e L m ex)
    (h6 : (L + 1 + 1 + 1 + 1 + 1 + 1, o6) ∈ ex) (hd6 : o6.data = .cell v6) (hl : row.length ≤ 4)
    (hto : m "told" = some (.str (wd d.i row) ta)) (hdu : m "due" = some (.str (wd d.i (dueRow row (restOf d))) td))
    (hdots : dots d.i row = true) (hfit : (codeL (sizeOf' d) (restOf d)).all (fun c => fitS (wd d.i c) ⟨#[]⟩ (signsOf d.i row) (seqS (wd d.i c) (wd d.i (dueRow row (restOf d))))) = true)
    (h : ∀ ex' s' o6' v6', KeepsNw (L + 1 + 1 + 1 + 1 + 1 + 1) ex ex' → (L + 1 + 1 + 1 + 1 + 1 + 1, o6') ∈ ex' → o6'.data = .cell v6' → St s₀ L m ex' s' → wpAny (model P0 w) A (execs (bodyE.drop 10) (lawE L a cd)) Q (fun _ _ => False) s') :
    wpAny (model P0 w) A (execs (bodyE.drop 9) (lawE L a cd)) Q (fun _ _ => False) s := by
  have hh := R.handled
  obtain ⟨f1, hf1, F1⟩ := G.at 7 (by decide) "_ellipsis_match" (by kernel_rfl)
  obtain ⟨f2, hf2, F2⟩ := G.at 22 (by decide) "_law_dots" (by kernel_rfl)
  have hwl := wd_len d.i row
  refine wpAny_execs_cons ?_
  walk_at "for"
  refine r_local S (v := .ref e.ac) (by exact H.code.1) ?_ (by kernel_rfl) (by kernel_rfl) (by kernel_rfl) (by kernel_rfl)
  refine ⟨_, _, m, ex, fun j m' nw' => m' = m ∧ KeepsNw (L + 1 + 1 + 1 + 1 + 1 + 1) ex nw' ∧ ∃ o6 v6, (L + 1 + 1 + 1 + 1 + 1 + 1, o6) ∈ nw' ∧ o6.data = .cell v6, src_list hh (lO_list (S.mem H.code.2.1)), S, ⟨rfl, .rfl', o6, v6, h6, hd6⟩, ?_, ?_, ?_⟩
  · rintro j m' nw' ⟨rfl, hk, _⟩ b hb o ho
    cases hb
    rw [S.mem H.code.2.1] at ho; cases ho
    exact .inr (hk.l _ _ _ H.code.2.1)
  · rintro I j v o m' nw' s' hj hP ⟨rfl, hk, o6', v6', h6', hd6'⟩ S'
    obtain ⟨x, tx, hx, rfl⟩ := strValues_at (l := e.l) (by simpa using hP)
    have hxc : ∃ c ∈ codeL (sizeOf' d) (restOf d), x = wd d.i c := by
      have : x ∈ e.l.map (·.1) := List.mem_map.mpr ⟨_, List.mem_of_getElem? hx, rfl⟩
      rw [H.code.2.2] at this
      obtain ⟨c, hc, q⟩ := List.mem_map.mp this
      exact ⟨c, hc, q.symm⟩
    obtain ⟨c, hc, rfl⟩ := hxc
    with_reducible refine PyProof.Rows.assign_Name ?_
    refine r_storecell_p [(I, o)] S' h6' hd6' (fun o7 ex2 s₂ hd7 h7 hk2 S₂ => ?_) (by kernel_rfl) (by kernel_rfl) (by kernel_rfl)
    refine wpAny_execs_cons ?_
    walk_at "if"
    walk_at "call"
    walk_at "gl"
    refine r_callfn F1 ?_ nofun
    walk_at "more"
    walk_at "call"
    walk_at "gl"
    refine r_callfn F2 ?_ nofun
    walk_at "more"
    refine r_local S₂ (v := .str (wd d.i row) ta) (by exact hto) ?_ (by kernel_rfl) (by kernel_rfl) (by kernel_rfl) (by kernel_rfl)
    walk_at "sp0"
    refine ⟨fun o e => S₂.base e, ?_⟩
    refine c_dots (R.less (by decide)) (G.keeps S₂.fr.keep) (F2.keeps S₂.fr.keep) (by omega) fun t₃ s₃ e₃ => ?_
    have S₃ := S₂.step e₃
    walk_at "more"
    refine r_cell (by kernel_rfl) ⟨o7, S₃.mem (.tail _ h7), hd7⟩ ?_ (by kernel_rfl) (by kernel_rfl) (by kernel_rfl)
    walk_at "sp0"
    refine ⟨fun o e => S₃.base e, ?_⟩
    refine c_ell (R.less (by decide)) (G.keeps S₃.fr.keep) (F1.keeps S₃.fr.keep) hdots (List.all_eq_true.mp hfit c hc) fun s₄ e₄ => ?_
    have S₄ := S₃.step e₄
    refine wpAny_Compare1 ?_
    refine r_cell (by kernel_rfl) ⟨o7, S₄.mem (.tail _ h7), hd7⟩ ?_ (by kernel_rfl) (by kernel_rfl) (by kernel_rfl)
    refine r_local S₄ (v := .str (wd d.i (dueRow row (restOf d))) td) (by exact hdu) ?_ (by kernel_rfl) (by kernel_rfl) (by kernel_rfl) (by kernel_rfl)
    refine P.eq_str ?_
    refine wpAny_isNot_plain rfl ?_
    refine wpAny_truthy_bool ?_
    rw [seqS_iff, beq_self_eq_true, Bool.not_true, if_neg (by decide)]
    refine wpAny_execs_nil ?_
    refine wpAny_execs_nil ?_
    exact ⟨_, _, S₄, rfl, hk.trans hk2, o7, _, h7, hd7⟩
  · rintro m' nw' s' ⟨rfl, hk, o6', v6', h6', hd6'⟩ S'
    exact h nw' s' o6' v6' hk h6' hd6' S'
end
end partMine35
section partMine36
set_option autoImplicit false
section
variable {w : World} {A : Around} {E : Value → Shared → Prop} {s₀ s : Shared} {L : Addr} {m m' : Str → Option Value} {news ex ex' : Nw} {env : Env} {mg mb : Str → Option Value} {d : LD} {e : LD2}
set_option maxHeartbeats 2000000 in
/-- hyphens, the gap -/
theorem law_turn5 {a : Addr} {cd : Value} {j : Nat} {tj : Tok} {row : List Int} {ar : Addr} {ws : List Value} {kk : Nat} {ta td tu : Tok} {Q : Flow → Shared → Prop} (R : Room A 3) (G : Gl w mg mb s₀.heap) (S : St s₀ L m ex s) (H : LawL d e L m ex)
    (hn : m "number" = some (.int j tj)) (hb : Bits row) (hl : row.length ≤ 4) (hmem : (ar, lO ws kk) ∈ ex) (hints : IntsAre ws row) (hrow : m "row" = some (.ref ar)) (hput : m "put" = some (.int (putOf row (restOf d)) tu))
    (hto : m "told" = some (.str (wd d.i row) ta)) (hdu : m "due" = some (.str (wd d.i (dueRow row (restOf d))) td))
    (hdots : dots d.i row = true) (hfit1 : fitS (hyph (wd d.i (dueRow row (restOf d)))) ⟨#[]⟩ (signsOf d.i row) true = true)
    (hfit2 : ∀ gap, gap < sizeOf' d → splitIs (dotAt (wd d.i row) gap) (wd d.i (row.take gap)) [wd d.i (row.drop gap)] = true ∧ fitS (wd d.i (dueRow row (restOf d))) (wd d.i (row.take gap)) [wd d.i (row.drop gap)] (seqS (wd d.i (gapRow row (restOf d) gap)) (wd d.i (dueRow row (restOf d)))) = true)
    (h : ∀ g s', St s₀ L (fun y => if y = "gap" then some g else m y) ex s' → Q .next s') :
    wpAny (model P0 w) A (execs (bodyE.drop 10) (lawE L a cd)) Q (fun _ _ => False) s := by
  have hh := R.handled
  have W := H.W
  have hs4 := size_cases d
  obtain ⟨f1, hf1, F1⟩ := G.at 7 (by decide) "_ellipsis_match" (by kernel_rfl)
  obtain ⟨f2, hf2, F2⟩ := G.at 22 (by decide) "_law_dots" (by kernel_rfl)
  obtain ⟨f3, hf3, F3⟩ := G.at 19 (by decide) "_law_word" (by kernel_rfl)
  have hwl := wd_len d.i row
  have hdl := wd_len d.i (dueRow row (restOf d))
  have hdl2 := due_len row (restOf d) (placeOf row (restOf d))
  have hdl3 : (dueRow row (restOf d)).length = row.length + 1 := hdl2
  have hj : (Txt.join "-\n-" (signs (wd d.i (dueRow row (restOf d))))).length ≤ 400 := by
    have := join_len (sep := "-\n-") (by decide) (signs (wd d.i (dueRow row (restOf d)))) (by intro y hy; obtain ⟨c, _, rfl⟩ := List.mem_map.mp hy; exact Nat.le_refl 1)
    rw [signs_length] at this; omega
  have h3 : (Str.ofString "-\n-").length = 3 := by decide
  have h3' : (Str.ofString "...").length = 3 := by decide
  refine wpAny_execs_cons ?_
  walk_at "if"
  walk_at "call"
  walk_at "gl"
  refine r_callfn F1 ?_ nofun
  walk_at "more"
  walk_at "call"
  walk_at "gl"
  refine r_callfn F2 ?_ nofun
  walk_at "more"
  refine r_local S (v := .str (wd d.i row) ta) (by exact hto) ?_ (by kernel_rfl) (by kernel_rfl) (by kernel_rfl) (by kernel_rfl)
  walk_at "sp0"
  refine ⟨fun o e => S.base e, ?_⟩
  refine c_dots (R.less (by decide)) (G.keeps S.fr.keep) (F2.keeps S.fr.keep) (by omega) fun t₃ s₃ e₃ => ?_
  have S₃ := S.step e₃
  walk_at "more"
  with_reducible refine wpAny_BinOp ?_
  with_reducible refine wpAny_BinOp ?_
  refine r_str S₃ fun t₄ s₄ S₄ => ?_
  refine MethodCall_ ?_
  refine r_str S₄ fun t₅ s₅ S₅ => ?_
  refine GM.join ?_
  refine callWith_method1 ?_
  walk_at "more"
  refine r_local S₅ (v := .str (wd d.i (dueRow row (restOf d))) td) (by exact hdu) ?_ (by kernel_rfl) (by kernel_rfl) (by kernel_rfl) (by kernel_rfl)
  walk_at "sp0"
  refine r_joinstr S₅ hh (by decide) (by omega) fun t₆ s₆ S₆ => ?_
  refine r_addstr S₆ (by rw [h3]; omega) fun t₇ s₇ S₇ => ?_
  refine r_str S₇ fun t₈ s₈ S₈ => ?_
  refine r_addstr S₈ (by rw [Str.length_append, h3]; omega) fun t₉ s₉ S₉ => ?_
  walk_at "sp0"
  refine ⟨fun o e => S₉.base e, ?_⟩
  refine c_ell (R.less (by decide)) (G.keeps S₉.fr.keep) (F1.keeps S₉.fr.keep) hdots hfit1 fun s₁₀ e₁₀ => ?_
  have S₁₀ := S₉.step e₁₀
  refine wpAny_Constant_bool ?_
  refine wpAny_isNot_plain rfl ?_
  refine wpAny_truthy_bool ?_
  rw [if_neg (by decide)]
  refine wpAny_execs_nil ?_
  -- gap
  walk_at "ec"
  walk_at "as"
  with_reducible refine wpAny_BinOp ?_
  with_reducible refine wpAny_BinOp ?_
  with_reducible refine Subscript_ ?_
  refine r_cell (by kernel_rfl) ⟨d.o3, S₁₀.mem W.cells.1, W.cells.2.1⟩ ?_ (by kernel_rfl) (by kernel_rfl) (by kernel_rfl)
  refine r_int S₁₀ fun t₁₁ s₁₁ S₁₁ => ?_
  refine r_item_ints (lO_list (S₁₁.mem W.cells.2.2.1)) W.cells.2.2.2.1 (by decide) (by rw [W.cells.2.2.2.2.1]; decide) (by rw [W.cells.2.2.2.2.1]; decide) fun u₁₁ => ?_
  refine r_local S₁₁ (v := .int j tj) (by exact hn) ?_ (by kernel_rfl) (by kernel_rfl) (by kernel_rfl) (by kernel_rfl)
  refine r_add S₁₁ fun t₁₂ s₁₂ S₁₂ => ?_
  refine r_cell (by kernel_rfl) ⟨e.o5, S₁₂.mem H.h5.1, H.h5.2⟩ ?_ (by kernel_rfl) (by kernel_rfl) (by kernel_rfl)
  refine r_mod S₁₂ (by omega) fun t₁₃ s₁₃ S₁₃ => ?_
  have hgb := fmod_lt (i := d.cs.getD (Int.toNat 3) 0 + (j : Int)) (n := (sizeOf' d : Int)) (by omega)
  obtain ⟨gn, hgn⟩ := Int.eq_ofNat_of_zero_le hgb.1
  have hgl : gn < sizeOf' d := by have := hgb.2; omega
  rw [hgn]
  obtain ⟨fs, ff⟩ := hfit2 gn hgl
  walk_at "st"
  rename_i s₁₄ S₁₄
  walk_at "ec"
  walk_at "if"
  walk_at "call"
  walk_at "gl"
  refine r_callfn F1 ?_ nofun
  walk_at "more"
  with_reducible refine wpAny_BinOp ?_
  with_reducible refine wpAny_BinOp ?_
  with_reducible refine Subscript_ ?_
  refine r_local S₁₄ (v := .str (wd d.i row) ta) (by exact hto) ?_ (by kernel_rfl) (by kernel_rfl) (by kernel_rfl) (by kernel_rfl)
  refine r_sliceto (s₀ := s₀) (L := L) ?_
  walk_at "ld"
  refine ⟨_, _, _, _, rfl, S₁₄, by omega, fun t1 s₁₅ S₁₅ => ?_⟩
  have hq1 := Txt.slice_le (wd d.i row) none (some (gn : Int))
  have hq2 := Txt.slice_le (wd d.i row) (some (gn : Int)) none
  refine r_str S₁₅ fun t2 s₁₆ S₁₆ => ?_
  refine r_addstr S₁₆ (by rw [h3']; omega) fun t3 s₁₇ S₁₇ => ?_
  with_reducible refine Subscript_ ?_
  refine r_local S₁₇ (v := .str (wd d.i row) ta) (by exact hto) ?_ (by kernel_rfl) (by kernel_rfl) (by kernel_rfl) (by kernel_rfl)
  refine r_slicefrom (s₀ := s₀) (L := L) ?_
  walk_at "ld"
  refine ⟨_, _, _, _, rfl, S₁₇, by omega, fun t4 s₁₈ S₁₈ => ?_⟩
  refine r_addstr S₁₈ (by rw [Str.length_append, h3']; omega) fun t5 s₁₉ S₁₉ => ?_
  walk_at "more"
  refine r_local S₁₉ (v := .str (wd d.i (dueRow row (restOf d))) td) (by exact hdu) ?_ (by kernel_rfl) (by kernel_rfl) (by kernel_rfl) (by kernel_rfl)
  walk_at "sp0"
  refine ⟨fun o e => S₁₉.base e, ?_⟩
  refine c_ell (R.less (by decide)) (G.keeps S₁₉.fr.keep) (F1.keeps S₁₉.fr.keep) fs ff fun s₂₀ e₂₀ => ?_
  have S₂₀ := S₁₉.step e₂₀
  refine wpAny_Compare1 ?_
  walk_at "call"
  walk_at "gl"
  refine r_callfn F3 ?_ nofun
  walk_at "more"
  refine r_cell (by kernel_rfl) ⟨d.o4, S₂₀.mem W.pair.1, W.pair.2.1⟩ ?_ (by kernel_rfl) (by kernel_rfl) (by kernel_rfl)
  walk_at "more"
  with_reducible refine wpAny_BinOp ?_
  with_reducible refine wpAny_BinOp ?_
  with_reducible refine Subscript_ ?_
  refine r_local S₂₀ (v := .ref ar) (by exact hrow) ?_ (by kernel_rfl) (by kernel_rfl) (by kernel_rfl) (by kernel_rfl)
  refine r_slicelist (s₀ := s₀) (L := L) ?_
  refine evalPart_none_step ?_
  refine evalPart_some_step ?_
  walk_at "ld"
  have hwsl := ints_len hints
  refine ⟨_, _, ws.toArray, ws.take gn, _, _, .none, .int _ _, S₂₀, lO_list (S₂₀.mem hmem), by rw [List.size_toArray]; omega, by rw [slicePick_upto'], fun b1 s₂₁ S₂₁ => ?_⟩
  with_reducible refine List_ ?_
  walk_at "more"
  refine r_local S₂₁ (v := .int (putOf row (restOf d)) tu) (by exact hput) ?_ (by kernel_rfl) (by kernel_rfl) (by kernel_rfl) (by kernel_rfl)
  walk_at "sp0"
  refine r_newlist S₂₁ (by simp) fun b2 s₂₂ S₂₂ => ?_
  refine r_addlist S₂₂ (lO_list (S₂₂.mem (.tail _ (.head _)))) (lO_list (S₂₂.mem (.head _))) (by simp [List.length_take]; omega) fun b3 s₂₃ S₂₃ => ?_
  with_reducible refine Subscript_ ?_
  refine r_local S₂₃ (v := .ref ar) (by exact hrow) ?_ (by kernel_rfl) (by kernel_rfl) (by kernel_rfl) (by kernel_rfl)
  refine r_slicelist (s₀ := s₀) (L := L) ?_
  refine evalPart_some_step ?_
  walk_at "ld"
  refine evalPart_none_step ?_
  refine ⟨_, _, ws.toArray, ws.drop gn, _, _, .int _ _, .none, S₂₃, lO_list (S₂₃.mem (.tail _ (.tail _ (.tail _ hmem)))), by rw [List.size_toArray]; omega, by rw [slicePick_from'], fun b4 s₂₄ S₂₄ => ?_⟩
  refine r_addlist S₂₄ (lO_list (S₂₄.mem (.tail _ (.head _)))) (lO_list (S₂₄.mem (.head _))) (by simp [List.length_take]; omega) fun b5 s₂₅ S₂₅ => ?_
  walk_at "sp0"
  refine ⟨fun o e => S₂₅.base e, ?_⟩
  have hdi : IntsAre ((ws.take gn ++ [.int (putOf row (restOf d)) tu]) ++ ws.drop gn) (gapRow row (restOf d) gn) := ints_app (ints_app (ints_take hints _) (.cons _ _ .nil)) (ints_drop hints _)
  refine c_word (R.less (by decide)) (G.keeps S₂₅.fr.keep) (F3.keeps S₂₅.fr.keep) (S₂₅.mem (.tail _ (.tail _ (.tail _ (.tail _ (.tail _ W.pair.2.2)))))) (lO_list (S₂₅.mem (.head _))) hdi (due_bits hb _ _ _) (by have := due_len row (restOf d) gn; unfold gapRow; omega) (by show 1 ≤ 100; decide) (by show 1 ≤ 100; decide) fun t₂₆ s₂₆ e₂₆ => ?_
  have S₂₆ := S₂₅.step e₂₆
  refine r_local S₂₆ (v := .str (wd d.i (dueRow row (restOf d))) td) (by exact hdu) ?_ (by kernel_rfl) (by kernel_rfl) (by kernel_rfl) (by kernel_rfl)
  refine P.eq_str ?_
  refine wpAny_isNot_plain rfl ?_
  refine wpAny_truthy_bool ?_
  rw [show ((wordOf ⟨#[c0T.getD d.i 0]⟩ ⟨#[c1T.getD d.i 0]⟩ (gapRow row (restOf d) gn)).cps.toList == (wd d.i (dueRow row (restOf d))).cps.toList) = seqS (wd d.i (gapRow row (restOf d) gn)) (wd d.i (dueRow row (restOf d))) from rfl, beq_self_eq_true, Bool.not_true, if_neg (by decide)]
  refine wpAny_execs_nil ?_
  refine wpAny_execs_nil ?_
  refine h _ s₂₆ (S₂₆.weaken ?_)
  exact List.Sublist.cons _ (List.Sublist.cons _ (List.Sublist.cons _ (List.Sublist.cons _ (List.Sublist.cons _ (List.Sublist.refl _)))))
end
end partMine36
section partMine37
set_option autoImplicit false
theorem rest_in (d : LD) : restOf d ∈ allRs (sizeOf' d) := by
  unfold restOf allRs
  have := fmod_lt (i := d.cs.getD 1 0) (n := (sizeOf' d : Int) + 1) (by omega)
  obtain ⟨k, hk⟩ := Int.eq_ofNat_of_zero_le this.1
  rw [hk] at this ⊢
  exact List.mem_map.mpr ⟨k, List.mem_range.mpr (by omega), rfl⟩
theorem fb_bit (d : LD) : fbOf d = 0 ∨ fbOf d = 1 := by
  have := fmod_lt (i := (d.cs.getD 1 0).fdiv 6) (n := 2) (by decide)
  unfold fbOf; omega
theorem rowsL_four (fb : Int) : rowsL 4 fb = rowsOf 3 := by unfold rowsL; simp
theorem rowsL_five : ([0, 1].all fun fb => (rowsL 5 fb).all fun r => (rowsOf 4).contains r) = true := by decide +kernel
structure RowFacts (i n : Nat) (r : Int) (row : List Int) : Prop where
  bits : Bits row
  len : row.length + 1 = n
  ok : rowBits n r row = true
  dots : dots i row = true
  shape : shape i row = true
  fit : rowFit i n r row = true
theorem row_facts {i n : Nat} {r fb : Int} (hi : i < 7) (hn : n = 4 ∨ n = 5) (hr : r ∈ allRs n) (hf : fb = 0 ∨ fb = 1) {row : List Int} (h : row ∈ rowsL n fb) : RowFacts i n r row := by
  have hb : rowBits n r row = true := by
    have h1 := List.all_eq_true.mp bits_all n (by rcases hn with rfl | rfl <;> simp)
    have h2 := List.all_eq_true.mp h1 r hr
    have h3 := List.all_eq_true.mp (Bool.and_eq_true_iff.mp h2).2 fb (by rcases hf with rfl | rfl <;> simp)
    exact List.all_eq_true.mp h3 row h
  have hlen : row.length + 1 = n := by
    unfold rowBits at hb
    simp only [Bool.and_eq_true, decide_eq_true_eq] at hb
    exact hb.1.1.2
  rcases hn with rfl | rfl
  · have h' := h
    rw [rowsL_four] at h'
    refine ⟨(rowsOf_mem 3 row h').2, hlen, hb, List.all_eq_true.mp (dots3 i hi) row h', List.all_eq_true.mp (shape3 i hi) row h', ?_⟩
    have h1 := List.all_eq_true.mp (fits_4 i hi) r hr
    exact List.all_eq_true.mp h1 row (by rw [rowsL_four]; exact h')
  · have h' : row ∈ rowsOf 4 := by
      have h1 := List.all_eq_true.mp rowsL_five fb (by rcases hf with rfl | rfl <;> simp)
      exact List.contains_iff_mem.mp (List.all_eq_true.mp h1 row h)
    refine ⟨(rowsOf_mem 4 row h').2, hlen, hb, List.all_eq_true.mp (dots4 i hi) row h', List.all_eq_true.mp (shape4 i hi) row h', ?_⟩
    rcases hf with rfl | rfl
    · exact List.all_eq_true.mp (List.all_eq_true.mp (fits_50 i hi) r hr) row h
    · exact List.all_eq_true.mp (List.all_eq_true.mp (fits_51 i hi) r hr) row h
theorem KeepsNw.iter {c I : Addr} {o : Obj} {nw ex : Nw} (hnd : (((I, o) :: nw).map (·.1)).Nodup) (hk : KeepsNw c ((I, o) :: nw) ex) (hc : c ≠ I) :
    ∃ nw', List.Perm ((I, o) :: nw') ex ∧ KeepsNw c nw nw' ∧ ∀ o6, (c, o6) ∈ ex → (c, o6) ∈ nw' := by
  obtain ⟨l1, l2, rfl⟩ := List.append_of_mem (hk.ne (I, o) (.head _) (Ne.symm hc))
  have hI : ∀ p ∈ nw, p.1 ≠ I := by
    intro p hp q
    rw [List.map_cons, List.nodup_cons] at hnd
    exact hnd.1 (List.mem_map.mpr ⟨p, hp, q⟩)
  have out : ∀ p : Addr × Obj, p.1 ≠ I → p ∈ l1 ++ (I, o) :: l2 → p ∈ l1 ++ l2 := by
    intro p hp hm
    rcases List.mem_append.mp hm with q | q
    · exact List.mem_append_left _ q
    · rcases List.mem_cons.mp q with rfl | q
      · exact absurd rfl hp
      · exact List.mem_append_right _ q
  refine ⟨l1 ++ l2, List.perm_middle.symm, ⟨fun p hp hne => out p (hI p hp) (hk.ne p (.tail _ hp) hne), fun a vs k hp => out _ (hI _ hp) (hk.l _ _ _ (.tail _ hp)), fun a vs hp => out _ (hI _ hp) (hk.t _ _ (.tail _ hp))⟩, fun o6 h => out _ hc h⟩
section
variable {w : World} {A : Around} {E : Value → Shared → Prop} {s₀ s : Shared} {L : Addr} {m m' : Str → Option Value} {news ex ex' : Nw} {env : Env} {mg mb : Str → Option Value} {d : LD} {e : LD2}
theorem SameL.rfl' : SameL m m := fun _ _ => rfl
set_option maxHeartbeats 2000000 in
theorem law_turn {a : Addr} {cd : Value} {j : Nat} {tj : Tok} {o6 : Obj} {v6 : Option Value} {Q : Flow → Shared → Prop} (R : Room A 3) (G : Gl w mg mb s₀.heap) (S : St s₀ L m ex s) (H : LawL d e L m ex) (hj : j < 8) (hn : m "number" = some (.int j tj))
    (h6 : (L + 1 + 1 + 1 + 1 + 1 + 1, o6) ∈ ex) (hd6 : o6.data = .cell v6)
    (h : ∀ m' ex' s' o6' v6', KeepsNw (L + 1 + 1 + 1 + 1 + 1 + 1) ex ex' → SameL m m' → (L + 1 + 1 + 1 + 1 + 1 + 1, o6') ∈ ex' → o6'.data = .cell v6' → St s₀ L m' ex' s' → Q .next s') :
    wpAny (model P0 w) A (execs bodyE (lawE L a cd)) Q (fun _ _ => False) s := by
  refine law_turn1 (a := a) (cd := cd) R G S H hj hn fun row ar ws kk m1 ex1 s1 tp tu ta tb hrow hmem hints hx1 hm1 hn1 hr1 hp1 hu1 hpl1 hdu1 S1 => ?_
  have F := row_facts H.W.hi (size_cases d) (rest_in d) (fb_bit d) (List.mem_of_getElem? hrow)
  have hs := size_cases d
  have hl : row.length ≤ 4 := by have := F.len; omega
  have hrb := F.ok
  unfold rowBits at hrb
  simp only [Bool.and_eq_true, decide_eq_true_eq] at hrb
  obtain ⟨⟨⟨hple, _⟩, _⟩, hcon⟩ := hrb
  have hfit := F.fit
  unfold rowFit at hfit
  simp only [Bool.and_eq_true] at hfit
  obtain ⟨⟨hf1, hf2⟩, hf3⟩ := hfit
  have hshape : ∀ p, p ≤ row.length → cutAt d.i row p = true ∧ splitIs (dotAt (wd d.i row) p) (wd d.i (row.take p)) [wd d.i (row.drop p)] = true := by
    intro p hp
    have := all_lt F.shape (i := p) (by omega)
    exact Bool.and_eq_true_iff.mp this
  have k1 : KeepsNw (L + 1 + 1 + 1 + 1 + 1 + 1) ex ex1 := KeepsNw.of_sub hx1
  have H1 := H.keeps k1 hm1
  refine law_turn2 (a := a) (cd := cd) R G S1 H1.W hn1 F.bits hl hmem hints hr1 hp1 hple fun sa ys k cs m2 ex2 s2 ta2 tb2 st hx2 hm2 hsa hch hsp hsi hto hst hok hpr S2 => ?_
  have sm2 : SameL m1 m2 := fun x hx => by
    have : ∀ x ∈ (["first", "second", "both", "rest", "code", "rows"] : List Str), x ≠ "signs" ∧ x ≠ "told" ∧ x ≠ "stays" := by decide +kernel
    obtain ⟨q1, q2, q3⟩ := this x hx
    exact hm2 x q1 q2 q3
  have k2 : KeepsNw (L + 1 + 1 + 1 + 1 + 1 + 1) ex1 ex2 := KeepsNw.of_sub hx2
  have H2 := H1.keeps k2 sm2
  have g2 : ∀ x ∈ (["number", "row", "place", "put", "plain", "due"] : List Str), m2 x = m1 x := fun x hx => by
    have : ∀ x ∈ (["number", "row", "place", "put", "plain", "due"] : List Str), x ≠ "signs" ∧ x ≠ "told" ∧ x ≠ "stays" := by decide +kernel
    obtain ⟨q1, q2, q3⟩ := this x hx
    exact hm2 x q1 q2 q3
  refine law_turn3 (a := a) (cd := cd) R G S2 H2 hl ((g2 _ (by simp)).trans hp1) hple hsa hch hsp hsi hto ((g2 _ (by simp)).trans hpl1) hst ((g2 _ (by simp)).trans hdu1) hok hpr (hshape _ hple).1 hcon fun ex3 s3 hx3 S3 => ?_
  have k3 : KeepsNw (L + 1 + 1 + 1 + 1 + 1 + 1) ex2 ex3 := KeepsNw.of_sub hx3
  have H3 := H2.keeps k3 SameL.rfl'
  refine law_turn4 (a := a) (cd := cd) R G S3 H3 (hx3 _ (hx2 _ (hx1 _ h6))) hd6 hl hto ((g2 _ (by simp)).trans hdu1) F.dots hf1 fun ex4 s4 o4 v4 k4 h64 hd64 S4 => ?_
  have H4 := H3.keeps k4 SameL.rfl'
  refine law_turn5 (a := a) (cd := cd) R G S4 H4 ((g2 _ (by simp)).trans hn1) F.bits hl (k4.l _ _ _ (hx3 _ (hx2 _ hmem))) hints ((g2 _ (by simp)).trans hr1) ((g2 _ (by simp)).trans hu1) hto ((g2 _ (by simp)).trans hdu1) F.dots hf2 (fun gap hg => ⟨(hshape gap (by have := F.len; omega)).2, all_lt hf3 hg⟩) fun g s5 S5 => ?_
  refine h _ ex4 s5 o4 v4 (((k1.trans k2).trans k3).trans k4) ((hm1.trans sm2).trans fun x hx => ?_) h64 hd64 S5
  have : ∀ x ∈ (["first", "second", "both", "rest", "code", "rows"] : List Str), x ≠ "gap" := by decide +kernel
  simp only [if_neg (this x hx)]
set_option maxHeartbeats 2000000 in
theorem law_partE {a : Addr} {cd : Value} {o6 : Obj} {v6 : Option Value} {Q : Flow → Shared → Prop} (R : Room A 3) (G : Gl w mg mb s₀.heap) (S : St s₀ L m ex s) (H : LawL d e L m ex)
    (h6 : (L + 1 + 1 + 1 + 1 + 1 + 1, o6) ∈ ex) (hd6 : o6.data = .cell v6)
    (h : ∀ m' ex' s' o6' v6', LawL d e L m' ex' → (L + 1 + 1 + 1 + 1 + 1 + 1, o6') ∈ ex' → o6'.data = .cell v6' → St s₀ L m' ex' s' → wpAny (model P0 w) A (execs ((D 24).body.drop 11) (lawE L a cd)) Q E s') :
    wpAny (model P0 w) A (execs ((D 24).body.drop 10) (lawE L a cd)) Q E s := by
  have hh := R.handled
  refine wpAny_execs_cons ?_
  walk_at "for"
  walk_at "call"
  walk_at "bi range"
  refine PyProof.Rows.callWith_type1 ?_
  walk_at "ci"
  rename_i t₂ s₂ S₂
  walk_at "sp0"
  refine r_range1 S₂ fun r u v s₃ S₃ => ?_
  have hcr : r ≠ (L + 1 + 1 + 1 + 1 + 1 + 1) := by
    intro q
    have := S₃.nd
    rw [List.map_cons, List.nodup_cons] at this
    exact this.1 (List.mem_map.mpr ⟨_, h6, q.symm⟩)
  have hro := S₃.mem (.head _)
  generalize hroe : ({ cls := .type "range", data := .fields #[.int 0 u, .int 8 t₂, .int 1 v] } : Obj) = ro at S₃ hro
  refine ⟨8, _, m, _, fun j m' nw' => (r, ro) ∈ nw' ∧ LawL d e L m' nw' ∧ ∃ o6 v6, (L + 1 + 1 + 1 + 1 + 1 + 1, o6) ∈ nw' ∧ o6.data = .cell v6, src_range (n := 8) hh (hroe ▸ hro) (by decide), S₃, ⟨.head _, H.keeps (KeepsNw.of_sub fun _ hp => .tail _ hp) SameL.rfl', o6, v6, .tail _ h6, hd6⟩, ?_, ?_, ?_⟩
  · rintro j m' nw' ⟨hJ, _⟩ b hb o ho
    cases hb
    rw [hro] at ho; cases ho
    exact .inr hJ
  · rintro I j v o m' nw' s' hj ⟨tj, rfl⟩ ⟨hJ, H', o6', v6', h6', hd6'⟩ S'
    with_reducible refine PyProof.Rows.assign_Name ?_
    walk_at "st"
    rename_i s₄ S₄
    have hc : (L + 1 + 1 + 1 + 1 + 1 + 1) ≠ I := by
      intro q
      have := S'.nd
      rw [List.map_cons, List.nodup_cons] at this
      exact this.1 (List.mem_map.mpr ⟨_, h6', q⟩)
    refine law_turn (a := a) (cd := cd) R G S₄ (H'.keeps (KeepsNw.of_sub fun _ hp => .tail _ hp) (fun x hx => ?_)) hj rfl (.tail _ h6') hd6' fun m2 ex2 s5 o62 v62 hk hm h62 hd62 S5 => ?_
    · have : ∀ x ∈ (["first", "second", "both", "rest", "code", "rows"] : List Str), x ≠ "number" := by decide +kernel
      simp only [if_neg (this x hx)]
    · obtain ⟨nw2, hp, hk2, hc2⟩ := hk.iter S'.nd hc
      refine ⟨m2, nw2, S5.perm hp, hk2.ne _ hJ hcr, H'.keeps hk2 ?_, o62, v62, hc2 _ h62, hd62⟩
      refine SameL.trans (fun x hx => ?_) hm
      have : ∀ x ∈ (["first", "second", "both", "rest", "code", "rows"] : List Str), x ≠ "number" := by decide +kernel
      simp only [if_neg (this x hx)]
  · rintro m' nw' s' ⟨_, H', o6', v6', h6', hd6'⟩ S'
    exact h m' nw' s' o6' v6' H' h6' hd6' S'
end
end partMine37
section partMine38
set_option autoImplicit false
theorem code_mem {n : Nat} {r : Int} {c : List Int} (h : c ∈ codeL n r) : c.length = n ∧ Bits c := rowsOf_mem n c (List.mem_filter.mp h).1
theorem code_len (n : Nat) (r : Int) : (codeL n r).length ≤ 2 ^ n := by
  unfold codeL
  have := List.length_filter_le (inCode n r) (rowsOf n)
  rw [rowsOf_len] at this; exact this
theorem code_pos {n : Nat} {r : Int} (hn : n = 4 ∨ n = 5) (hr : r ∈ allRs n) : 0 < (codeL n r).length := by
  have h1 := List.all_eq_true.mp bits_all n (by rcases hn with rfl | rfl <;> simp)
  have h2 := (Bool.and_eq_true_iff.mp (List.all_eq_true.mp h1 r hr)).1
  cases q : codeL n r with
  | nil => rw [q] at h2; cases h2
  | cons x l => exact Nat.succ_pos _
theorem word_at {i : Nat} {c : List Int} {j ch : Nat} (h : (wd i c).cps[j]? = some ch) : ∃ b, c[j]? = some b ∧ ch = if b = 0 then c0T.getD i 0 else c1T.getD i 0 := by
  unfold wd at h
  rw [word_cps] at h
  simp only [List.getElem?_toArray, List.getElem?_map] at h
  cases q : c[j]? with
  | none => rw [q] at h; cases h
  | some b => rw [q] at h; exact ⟨b, rfl, by simpa using h.symm⟩
section
variable {w : World} {A : Around} {E : Value → Shared → Prop} {s₀ s : Shared} {L : Addr} {m m' : Str → Option Value} {news ex ex' : Nw} {env : Env} {mg mb : Str → Option Value} {d : LD} {e : LD2}
set_option maxHeartbeats 2000000 in
/-- due, signs -/
theorem law_partF1 {a : Addr} {cd : Value} {Q : Flow → Shared → Prop} (R : Room A 3) (G : Gl w mg mb s₀.heap) (S : St s₀ L m ex s) (H : LawL d e L m ex)
    (h : ∀ c sa ys k cs m' ex' s' tb, c ∈ codeL (sizeOf' d) (restOf d) → (∀ p ∈ ex, p ∈ ex') → SameL m m' → (sa, lO ys k) ∈ ex' → ChAre ys cs → All2 (Spells d.i) cs c → m' "signs" = some (.ref sa) → m' "due" = some (.str (wd d.i c) tb) →
      St s₀ L m' ex' s' → wpAny (model P0 w) A (execs ((D 24).body.drop 13) (lawE L a cd)) Q E s') :
    wpAny (model P0 w) A (execs ((D 24).body.drop 11) (lawE L a cd)) Q E s := by
  have hh := R.handled
  have hs4 := size_cases d
  have W := H.W
  obtain ⟨gl0, gl1⟩ := g_len d.i W.hi
  obtain ⟨hc0, hc1⟩ := letters_fact d.i W.hi
  obtain ⟨f1, hf1, F1⟩ := G.at 20 (by decide) "_law_spelled" (by kernel_rfl)
  have hcl : e.l.length = (codeL (sizeOf' d) (restOf d)).length := by
    have := congrArg List.length H.code.2.2
    simpa using this
  have hvl : (strValues e.l).length = e.l.length := strValues_list _
  have hcp := code_pos hs4 (rest_in d)
  have hcb := code_len (sizeOf' d) (restOf d)
  have hcb2 : 2 ^ sizeOf' d ≤ 32 := by rcases hs4 with q | q <;> rw [q] <;> decide
  have hcell : ∀ {m' nw' s'}, St s₀ L m' nw' s' → (∀ p ∈ ex, p ∈ nw') → s'.heap.IsCell (L + 1 + 1 + 1) (some (.ref d.cl)) ∧ s'.heap.IsList d.cl d.vsC.toArray := fun S' hx => ⟨⟨d.o3, S'.mem (hx _ W.cells.1), W.cells.2.1⟩, lO_list (S'.mem (hx _ W.cells.2.2.1))⟩
  refine wpAny_execs_cons ?_
  walk_at "as"
  with_reducible refine Subscript_ ?_
  refine r_local S (v := .ref e.ac) (by exact H.code.1) ?_ (by kernel_rfl) (by kernel_rfl) (by kernel_rfl) (by kernel_rfl)
  with_reducible refine wpAny_BinOp ?_
  with_reducible refine wpAny_BinOp ?_
  with_reducible refine Subscript_ ?_
  refine r_cell (by kernel_rfl) (hcell S fun _ hp => hp).1 ?_ (by kernel_rfl) (by kernel_rfl) (by kernel_rfl)
  refine r_int S fun t₃ s₃ S₃ => ?_
  refine r_item_ints (hcell S₃ fun _ hp => hp).2 W.cells.2.2.2.1 (by decide) (by rw [W.cells.2.2.2.2.1]; decide) (by rw [W.cells.2.2.2.2.1]; decide) fun u₃ => ?_
  refine r_cell (by kernel_rfl) ⟨e.o5, S₃.mem H.h5.1, H.h5.2⟩ ?_ (by kernel_rfl) (by kernel_rfl) (by kernel_rfl)
  refine r_fdiv S₃ (by omega) (pylong_small (by omega)) fun t₄ s₄ S₄ => ?_
  walk_at "call"
  walk_at "bi len"
  refine PyProof.Rows.callWith_builtin1 ?_
  walk_at "more"
  refine r_local S₄ (v := .ref e.ac) (by exact H.code.1) ?_ (by kernel_rfl) (by kernel_rfl) (by kernel_rfl) (by kernel_rfl)
  walk_at "sp0"
  refine r_lenlist S₄ (lO_list (S₄.mem H.code.2.1)) (by omega) fun t₅ s₅ S₅ => ?_
  refine r_mod S₅ (by omega) fun t₆ s₆ S₆ => ?_
  have hkb := fmod_lt (i := (d.cs.getD (Int.toNat 4) 0).fdiv (sizeOf' d)) (n := ((strValues e.l).length : Int)) (by omega)
  obtain ⟨kn, hkn⟩ := Int.eq_ofNat_of_zero_le hkb.1
  have hkl : kn < (strValues e.l).length := by have := hkb.2; omega
  rw [hkn]
  obtain ⟨v, hv⟩ : ∃ v, (strValues e.l)[kn]? = some v := ⟨_, List.getElem?_eq_getElem hkl⟩
  obtain ⟨x, tx, hx, rfl⟩ := strValues_at hv
  obtain ⟨c, hc, rfl⟩ : ∃ c ∈ codeL (sizeOf' d) (restOf d), x = wd d.i c := by
    have : x ∈ e.l.map (·.1) := List.mem_map.mpr ⟨_, List.mem_of_getElem? hx, rfl⟩
    rw [H.code.2.2] at this
    obtain ⟨c, hc, q⟩ := List.mem_map.mp this
    exact ⟨c, hc, q.symm⟩
  obtain ⟨hclen, hcbits⟩ := code_mem hc
  refine r_itemlist (lO_list (S₆.mem H.code.2.1)) (by omega) (by omega) (x := .str (wd d.i c) tx) (by simpa using hv) ?_
  walk_at "st"
  rename_i s₇ S₇
  -- signs
  walk_at "ec"
  walk_at "as"
  walk_at "call"
  walk_at "gl"
  refine r_callfn F1 ?_ nofun
  walk_at "more"
  with_reducible refine Tuple_ ?_
  walk_at "more"
  refine r_local S₇ (v := .ref d.l1) (by exact W.first.1) ?_ (by kernel_rfl) (by kernel_rfl) (by kernel_rfl) (by kernel_rfl)
  walk_at "more"
  refine r_local S₇ (v := .ref d.l2) (by exact W.second.1) ?_ (by kernel_rfl) (by kernel_rfl) (by kernel_rfl) (by kernel_rfl)
  walk_at "sp0"
  refine r_newtuple S₇ (by simp) fun pt s₈ S₈ => ?_
  walk_at "more"
  have hwl := wd_len d.i c
  refine r_comp (cl := [("pair", L + 1 + 1 + 1 + 1)]) (by kernel_rfl) (by decide +kernel) (by kernel_rfl) (by decide +kernel) ?_
  walk_at "ld"
  refine ⟨_, _, fun j ys m' nw' => nw' = [] ∧ IntsAre ys (c.take j), src_str hh, by rw [sizeLine_eq]; show (wd d.i c).length ≤ _; omega, ⟨rfl, .nil⟩, ?_, ?_, ?_⟩
  · rintro j ys m' nw' ⟨_, hc⟩
    have h1 := ints_len hc
    rw [List.length_take] at h1
    omega
  · rintro C Dd j k v ys m' nw' I oo s' hj ⟨ch, u, hch, rfl⟩ ⟨rfl, hys⟩ S'
    obtain ⟨b, hb, hcb⟩ := word_at hch
    with_reducible refine PyProof.Rows.assign_Name ?_
    walk_at "st"
    rename_i s₉ S₉
    refine wpAny_tests_nil ?_
    rw [if_pos rfl]
    refine MethodCall_ ?_
    refine r_cell (by kernel_rfl) ⟨d.o4, S₉.base (S₈.mem (.tail _ W.pair.1)), W.pair.2.1⟩ ?_ (by kernel_rfl) (by kernel_rfl) (by kernel_rfl)
    have hpt := S₉.base (S₈.mem (.tail _ W.pair.2.2))
    refine getMethod_tup hpt ?_
    refine callWith_method1 ?_
    walk_at "more"
    walk_at "ld"
    walk_at "sp0"
    have hbb := hcbits b (List.mem_of_getElem? hb)
    have hval : (if (⟨#[c0T.getD d.i 0]⟩ : Str) = ⟨#[ch]⟩ then (0 : Int) else 1) = b := by
      rcases hbb with rfl | rfl
      · rw [hcb.trans (if_pos rfl), if_pos rfl]
      · rw [hcb.trans (if_neg (by decide)), if_neg]
        intro q
        have q2 : c0T.getD d.i 0 = c1T.getD d.i 0 := by simpa using q
        omega
    refine r_tupindex S₉ hpt ?_ fun t₁₀ s₁₀ S₁₀ => ?_
    · rcases hbb with rfl | rfl
      · left; rw [hcb.trans (if_pos rfl)]
      · right; rw [hcb.trans (if_neg (by decide))]
    rw [hval]
    refine ⟨_, _, S₁₀, rfl, ?_⟩
    rw [List.take_add_one, hb]
    exact ints_app hys (.cons _ _ .nil)
  rintro Dd k ys m' nw' s₉ ⟨rfl, hys⟩ Md
  have hn : (wd d.i c).cps.size = c.length := hwl
  rw [hn, List.take_length] at hys
  have S₉ := S₈.join Md
  walk_at "more"
  with_reducible refine Subscript_ ?_
  refine r_cell (by kernel_rfl) (hcell S₉ fun _ hp => .tail _ (.tail _ hp)).1 ?_ (by kernel_rfl) (by kernel_rfl) (by kernel_rfl)
  refine r_int S₉ fun t₁₀ s₁₀ S₁₀ => ?_
  refine r_item_ints (hcell S₁₀ fun _ hp => .tail _ (.tail _ hp)).2 W.cells.2.2.2.1 (by decide) (by rw [W.cells.2.2.2.2.1]; decide) (by rw [W.cells.2.2.2.2.1]; decide) fun u₁₀ => ?_
  walk_at "sp0"
  refine ⟨fun o e => S₁₀.base e, ?_⟩
  refine c_spelled (R.less (by decide)) (G.keeps S₁₀.fr.keep) (F1.keeps S₁₀.fr.keep) (S₁₀.mem (.tail _ (.head _))) (lO_list (S₁₀.mem (.tail _ (.tail _ W.first.2.1)))) (lO_list (S₁₀.mem (.tail _ (.tail _ W.second.2.1)))) W.first.2.2 W.second.2.2 gl0 gl1 (lO_list (S₁₀.mem (.head _))) hys hcbits (by omega) fun sa zs k2 s₁₁ Md2 hch => ?_
  have hsp := spelled_all W.hi hcbits (d.cs.getD (Int.toNat 2) 0)
  have S₁₁ := S₁₀.join Md2
  walk_at "st"
  rename_i s₁₂ S₁₂
  refine h c sa zs k2 _ _ _ s₁₂ tx hc (fun p hp => ?_) (fun x hx => ?_) (.head _) hch hsp rfl rfl S₁₂
  · exact .tail _ (.tail _ (.tail _ hp))
  · have : ∀ x ∈ (["first", "second", "both", "rest", "code", "rows"] : List Str), x ≠ "signs" ∧ x ≠ "due" := by decide +kernel
    obtain ⟨q1, q2⟩ := this x hx
    simp only [if_neg q1, if_neg q2]
end
end partMine38
section partMine39
set_option autoImplicit false
def bothS (i : Nat) : Str := ⟨(bothT.getD i []).toArray⟩
def restS (i : Nat) : Str := ⟨((bothT.getD i []).drop 1).toArray⟩
theorem both_slices : ((List.range 7).all fun i => (Txt.slice (bothS i) (some 1) none == restS i) && (bothS i).length == 3 && (restS i).length == 2) = true := by decide +kernel
theorem both_slice {i : Nat} (hi : i < 7) : Txt.slice (bothS i) (some 1) none = restS i ∧ (bothS i).length = 3 ∧ (restS i).length = 2 := by
  have := all_lt both_slices hi
  simpa only [Bool.and_eq_true, beq_iff_eq, and_assoc] using this
theorem both_head : ∀ i, i < 7 → (bothS i).cps[0]? = some ((bothT.getD i []).getD 0 0) := by decide +kernel
structure CodeFacts (i n : Nat) (r : Int) (c : List Int) : Prop where
  cut : ∀ p, p ≤ n → cutAt i c p = true
  dots : dots i c = true
  fit : endFit i n r c = true
theorem code_facts {i n : Nat} {r : Int} (hi : i < 7) (hn : n = 4 ∨ n = 5) (hr : r ∈ allRs n) {c : List Int} (h : c ∈ codeL n r) : CodeFacts i n r c := by
  have hm := (List.mem_filter.mp h).1
  have hl := (code_mem h).1
  rcases hn with rfl | rfl
  · refine ⟨fun p hp => ?_, List.all_eq_true.mp (dots4 i hi) c hm, List.all_eq_true.mp (List.all_eq_true.mp (ends_4 i hi) r hr) c h⟩
    have := all_lt (List.all_eq_true.mp (shape4 i hi) c hm) (i := p) (by omega)
    exact (Bool.and_eq_true_iff.mp this).1
  · refine ⟨fun p hp => ?_, List.all_eq_true.mp (dots5 i hi) c hm, List.all_eq_true.mp (List.all_eq_true.mp (ends_5 i hi) r hr) c h⟩
    exact all_lt (List.all_eq_true.mp (cuts5 i hi) c hm) (i := p) (by omega)
section
variable {w : World} {A : Around} {E : Value → Shared → Prop} {s₀ s : Shared} {L : Addr} {m m' : Str → Option Value} {news ex ex' : Nw} {env : Env} {mg mb : Str → Option Value} {d : LD} {e : LD2}
set_option maxHeartbeats 2000000 in
/-- place, rich, its look -/
theorem law_partF2 {a : Addr} {cd : Value} {c : List Int} {sa : Addr} {ys : List Value} {k : Nat} {cs : List Nat} {tb : Tok} {Q : Flow → Shared → Prop} (R : Room A 3) (G : Gl w mg mb s₀.heap) (S : St s₀ L m ex s) (H : LawL d e L m ex)
    (hc : c ∈ codeL (sizeOf' d) (restOf d)) (hsa : (sa, lO ys k) ∈ ex) (hch : ChAre ys cs) (hsp : All2 (Spells d.i) cs c) (hsi : m "signs" = some (.ref sa)) (hdu : m "due" = some (.str (wd d.i c) tb))
    (h : ∀ p m' ex' s' tr, p < sizeOf' d → (∀ q ∈ ex, q ∈ ex') → SameL m m' → m' "due" = some (.str (wd d.i c) tb) → m' "rich" = some (.str (richOf d.i c p) tr) →
      St s₀ L m' ex' s' → wpAny (model P0 w) A (execs ((D 24).body.drop 16) (lawE L a cd)) Q E s') :
    wpAny (model P0 w) A (execs ((D 24).body.drop 13) (lawE L a cd)) Q E s := by
  have hh := R.handled
  have hs4 := size_cases d
  have W := H.W
  have F := code_facts W.hi hs4 (rest_in d) hc
  obtain ⟨hclen, hcbits⟩ := code_mem hc
  obtain ⟨f2, hf2, F2⟩ := G.at 21 (by decide) "_law_prepared" (by kernel_rfl)
  obtain ⟨bs1, bs2, bs3⟩ := both_slice W.hi
  have hbo : m "both" = some (.str (bothS d.i) d.tb) := W.both
  have hcell : ∀ {m' nw' s'}, St s₀ L m' nw' s' → (∀ p ∈ ex, p ∈ nw') → s'.heap.IsCell (L + 1 + 1 + 1) (some (.ref d.cl)) ∧ s'.heap.IsList d.cl d.vsC.toArray := fun S' hx => ⟨⟨d.o3, S'.mem (hx _ W.cells.1), W.cells.2.1⟩, lO_list (S'.mem (hx _ W.cells.2.2.1))⟩
  have hcl := hsp.length
  have hyl := hch.length
  have hwl := wd_len d.i c
  refine wpAny_execs_cons ?_
  walk_at "as"
  with_reducible refine wpAny_BinOp ?_
  with_reducible refine Subscript_ ?_
  refine r_cell (by kernel_rfl) (hcell S fun _ hp => hp).1 ?_ (by kernel_rfl) (by kernel_rfl) (by kernel_rfl)
  refine r_int S fun t₃ s₃ S₃ => ?_
  refine r_item_ints (hcell S₃ fun _ hp => hp).2 W.cells.2.2.2.1 (by decide) (by rw [W.cells.2.2.2.2.1]; decide) (by rw [W.cells.2.2.2.2.1]; decide) fun u₃ => ?_
  refine r_cell (by kernel_rfl) ⟨e.o5, S₃.mem H.h5.1, H.h5.2⟩ ?_ (by kernel_rfl) (by kernel_rfl) (by kernel_rfl)
  refine r_mod S₃ (by omega) fun t₄ s₄ S₄ => ?_
  have hpb := fmod_lt (i := d.cs.getD (Int.toNat 4) 0) (n := (sizeOf' d : Int)) (by omega)
  obtain ⟨p, hpn⟩ := Int.eq_ofNat_of_zero_le hpb.1
  have hpl : p < sizeOf' d := by have := hpb.2; omega
  rw [hpn]
  walk_at "st"
  rename_i s₅ S₅
  -- rich
  walk_at "ec"
  walk_at "as"
  walk_at "call"
  walk_at "gl"
  refine r_callfn F2 ?_ nofun
  walk_at "more"
  with_reducible refine wpAny_BinOp ?_
  with_reducible refine wpAny_BinOp ?_
  with_reducible refine Subscript_ ?_
  refine r_local S₅ (v := .ref sa) (by exact hsi) ?_ (by kernel_rfl) (by kernel_rfl) (by kernel_rfl) (by kernel_rfl)
  refine r_slicelist (s₀ := s₀) (L := L) ?_
  refine evalPart_none_step ?_
  refine evalPart_some_step ?_
  walk_at "ld"
  refine ⟨_, _, ys.toArray, ys.take p, _, _, .none, .int _ _, S₅, lO_list (S₅.mem hsa), by rw [List.size_toArray]; omega, by rw [slicePick_upto'], fun b1 s₉ S₉ => ?_⟩
  with_reducible refine List_ ?_
  walk_at "more"
  with_reducible refine Subscript_ ?_
  refine r_local S₉ (v := .str (bothS d.i) d.tb) (by exact hbo) ?_ (by kernel_rfl) (by kernel_rfl) (by kernel_rfl) (by kernel_rfl)
  refine r_int S₉ fun t₁₀ s₁₀ S₁₀ => ?_
  refine r_itemstr S₁₀ (c := (bothT.getD d.i []).getD 0 0) (by decide) (by decide) (both_head d.i W.hi) fun u₁₀ s₁₁ S₁₁ => ?_
  walk_at "sp0"
  refine r_newlist S₁₁ (by simp) fun b2 s₁₃ S₁₃ => ?_
  refine r_addlist S₁₃ (lO_list (S₁₃.mem (.tail _ (.head _)))) (lO_list (S₁₃.mem (.head _))) (by simp [List.length_take]; omega) fun b3 s₁₄ S₁₄ => ?_
  with_reducible refine Subscript_ ?_
  refine r_local S₁₄ (v := .ref sa) (by exact hsi) ?_ (by kernel_rfl) (by kernel_rfl) (by kernel_rfl) (by kernel_rfl)
  refine r_slicelist (s₀ := s₀) (L := L) ?_
  refine evalPart_some_step ?_
  with_reducible refine wpAny_BinOp ?_
  walk_at "ld"
  refine r_int S₁₄ fun t₁₅ s₁₅ S₁₅ => ?_
  refine r_add S₁₅ fun t₁₆ s₁₆ S₁₆ => ?_
  rw [show ((p : Int) + 1) = ((p + 1 : Nat) : Int) from rfl]
  refine evalPart_none_step ?_
  refine ⟨_, _, ys.toArray, ys.drop (p + 1), _, _, .int _ _, .none, S₁₆, lO_list (S₁₆.mem (.tail _ (.tail _ (.tail _ hsa)))), by rw [List.size_toArray]; omega, by rw [slicePick_from'], fun b4 s₁₇ S₁₇ => ?_⟩
  refine r_addlist S₁₇ (lO_list (S₁₇.mem (.tail _ (.head _)))) (lO_list (S₁₇.mem (.head _))) (by simp [List.length_take]; omega) fun b5 s₁₈ S₁₈ => ?_
  walk_at "sp0"
  refine ⟨fun o e => S₁₈.base e, ?_⟩
  obtain ⟨ok, pr⟩ := both_ok W.hi
  obtain ⟨q1, q2⟩ := told_put hsp p (p + 1) _ ok
  refine c_prepared R (G.keeps S₁₈.fr.keep) (F2.keeps S₁₈.fr.keep) (lO_list (S₁₈.mem (.head _))) ((((hch.take _).append (.cons _ u₁₀ .nil))).append (hch.drop _)) q2 (by simp [List.length_take]; omega) fun ta s₁₉ e₁₉ => ?_
  rw [q1, pr]
  have S₁₉ : St s₀ L _ ex s₁₉ := (S₁₈.step e₁₉).weaken (by exact List.Sublist.cons _ (List.Sublist.cons _ (List.Sublist.cons _ (List.Sublist.cons _ (List.Sublist.cons _ (List.Sublist.refl _))))))
  walk_at "st"
  rename_i s₂₀ S₂₀
  -- if
  obtain ⟨c1, _⟩ := cutAt_eq (F.cut p (by omega))
  obtain ⟨_, c2⟩ := cutAt_eq (F.cut (p + 1) (by omega))
  have hw1 := wd_len d.i (c.take p)
  have hw2 := wd_len d.i (c.drop (p + 1))
  rw [List.length_take] at hw1
  rw [List.length_drop] at hw2
  walk_at "ec"
  walk_at "if"
  walk_at "ld"
  with_reducible refine wpAny_BinOp ?_
  with_reducible refine wpAny_BinOp ?_
  with_reducible refine Subscript_ ?_
  refine r_local S₂₀ (v := .str (wd d.i c) tb) (by exact hdu) ?_ (by kernel_rfl) (by kernel_rfl) (by kernel_rfl) (by kernel_rfl)
  refine r_sliceto (s₀ := s₀) (L := L) ?_
  walk_at "ld"
  refine ⟨_, _, _, _, rfl, S₂₀, by omega, fun t1 s₂₁ S₂₁ => ?_⟩
  rw [c1]
  with_reducible refine Subscript_ ?_
  refine r_local S₂₁ (v := .str (bothS d.i) d.tb) (by exact hbo) ?_ (by kernel_rfl) (by kernel_rfl) (by kernel_rfl) (by kernel_rfl)
  refine r_slicefrom (s₀ := s₀) (L := L) ?_
  refine r_int S₂₁ fun t2 s₂₂ S₂₂ => ?_
  refine ⟨_, _, _, _, rfl, S₂₂, by omega, fun t3 s₂₃ S₂₃ => ?_⟩
  rw [bs1]
  refine r_addstr S₂₃ (by omega) fun t4 s₂₄ S₂₄ => ?_
  with_reducible refine Subscript_ ?_
  refine r_local S₂₄ (v := .str (wd d.i c) tb) (by exact hdu) ?_ (by kernel_rfl) (by kernel_rfl) (by kernel_rfl) (by kernel_rfl)
  refine r_slicefrom (s₀ := s₀) (L := L) ?_
  with_reducible refine wpAny_BinOp ?_
  walk_at "ld"
  refine r_int S₂₄ fun t5 s₂₅ S₂₅ => ?_
  refine r_add S₂₅ fun t6 s₂₆ S₂₆ => ?_
  rw [show ((p : Int) + 1) = ((p + 1 : Nat) : Int) from rfl]
  refine ⟨_, _, _, _, rfl, S₂₆, by omega, fun t7 s₂₇ S₂₇ => ?_⟩
  rw [c2]
  refine r_addstr S₂₇ (by rw [Str.length_append]; omega) fun t8 s₂₈ S₂₈ => ?_
  refine P.ne_str ?_
  refine wpAny_truthy_bool ?_
  have hself : ∀ x : Str, (x.cps.toList != x.cps.toList) = false := fun x => bne_self_eq_false _
  rw [show (wd d.i (c.take p) ++ ⟨((bothT.getD d.i []).drop 1).toArray⟩ ++ wd d.i (c.drop (p + 1))) = (wd d.i (c.take p) ++ restS d.i ++ wd d.i (c.drop (p + 1))) from rfl]
  rw [bne_self_eq_false, if_neg (by decide)]
  refine wpAny_execs_nil ?_
  refine h p _ ex s₂₈ ta hpl (fun _ hp => hp) (fun x hx => ?_) ?_ ?_ S₂₈
  · have : ∀ x ∈ (["first", "second", "both", "rest", "code", "rows"] : List Str), x ≠ "rich" ∧ x ≠ "place" := by decide +kernel
    obtain ⟨q1, q2⟩ := this x hx
    simp only [if_neg q1, if_neg q2]
  · exact hdu
  · rfl
set_option maxHeartbeats 2000000 in
/-- each word of the code, with dots, on rich -/
theorem law_partF3 {a : Addr} {cd : Value} {c : List Int} {p : Nat} {o6 : Obj} {v6 : Option Value} {tb tr : Tok} {Q : Flow → Shared → Prop} (R : Room A 3) (G : Gl w mg mb s₀.heap) (S : St s₀ L m ex s) (H : LawL d e L m ex)
    (h6 : (L + 1 + 1 + 1 + 1 + 1 + 1, o6) ∈ ex) (hd6 : o6.data = .cell v6)
    (hc : c ∈ codeL (sizeOf' d) (restOf d)) (hp : p < sizeOf' d) (hdu : m "due" = some (.str (wd d.i c) tb)) (hri : m "rich" = some (.str (richOf d.i c p) tr))
    (h : ∀ m' ex' s', St s₀ L m' ex' s' → Q (.ret (.bool true)) s') :
    wpAny (model P0 w) A (execs ((D 24).body.drop 16) (lawE L a cd)) Q E s := by
  have hh := R.handled
  have hs4 := size_cases d
  have F := code_facts H.W.hi hs4 (rest_in d) hc
  obtain ⟨f1, hf1, F1⟩ := G.at 7 (by decide) "_ellipsis_match" (by kernel_rfl)
  obtain ⟨f2, hf2, F2⟩ := G.at 22 (by decide) "_law_dots" (by kernel_rfl)
  refine wpAny_execs_cons ?_
  walk_at "for"
  refine r_local S (v := .ref e.ac) (by exact H.code.1) ?_ (by kernel_rfl) (by kernel_rfl) (by kernel_rfl) (by kernel_rfl)
  refine ⟨_, _, m, ex, fun j m' nw' => m' = m ∧ KeepsNw (L + 1 + 1 + 1 + 1 + 1 + 1) ex nw' ∧ ∃ o6 v6, (L + 1 + 1 + 1 + 1 + 1 + 1, o6) ∈ nw' ∧ o6.data = .cell v6, src_list hh (lO_list (S.mem H.code.2.1)), S, ⟨rfl, .rfl', o6, v6, h6, hd6⟩, ?_, ?_, ?_⟩
  · rintro j m' nw' ⟨rfl, hk, _⟩ b hb o ho
    cases hb
    rw [S.mem H.code.2.1] at ho; cases ho
    exact .inr (hk.l _ _ _ H.code.2.1)
  · rintro I j v o m' nw' s' hj hP ⟨rfl, hk, o6', v6', h6', hd6'⟩ S'
    obtain ⟨x, tx, hx, rfl⟩ := strValues_at (l := e.l) (by simpa using hP)
    have hxc : ∃ c ∈ codeL (sizeOf' d) (restOf d), x = wd d.i c := by
      have : x ∈ e.l.map (·.1) := List.mem_map.mpr ⟨_, List.mem_of_getElem? hx, rfl⟩
      rw [H.code.2.2] at this
      obtain ⟨c, hc, q⟩ := List.mem_map.mp this
      exact ⟨c, hc, q.symm⟩
    obtain ⟨c', hc', rfl⟩ := hxc
    have F' := code_facts H.W.hi hs4 (rest_in d) hc'
    have hwl := wd_len d.i c'
    have hcl' := (code_mem hc').1
    have hfit := List.all_eq_true.mp (all_lt F.fit hp) c' hc'
    with_reducible refine PyProof.Rows.assign_Name ?_
    refine r_storecell_p [(I, o)] S' h6' hd6' (fun o7 ex2 s₂ hd7 h7 hk2 S₂ => ?_) (by kernel_rfl) (by kernel_rfl) (by kernel_rfl)
    refine wpAny_execs_cons ?_
    walk_at "if"
    walk_at "call"
    walk_at "gl"
    refine r_callfn F1 ?_ nofun
    walk_at "more"
    walk_at "call"
    walk_at "gl"
    refine r_callfn F2 ?_ nofun
    walk_at "more"
    refine r_cell (by kernel_rfl) ⟨o7, S₂.mem (.tail _ h7), hd7⟩ ?_ (by kernel_rfl) (by kernel_rfl) (by kernel_rfl)
    walk_at "sp0"
    refine ⟨fun o e => S₂.base e, ?_⟩
    refine c_dots (R.less (by decide)) (G.keeps S₂.fr.keep) (F2.keeps S₂.fr.keep) (by omega) fun t₃ s₃ e₃ => ?_
    have S₃ := S₂.step e₃
    walk_at "more"
    refine r_local S₃ (v := .str (richOf d.i c p) tr) (by exact hri) ?_ (by kernel_rfl) (by kernel_rfl) (by kernel_rfl) (by kernel_rfl)
    walk_at "sp0"
    refine ⟨fun o e => S₃.base e, ?_⟩
    refine c_ell (R.less (by decide)) (G.keeps S₃.fr.keep) (F1.keeps S₃.fr.keep) F'.dots hfit fun s₄ e₄ => ?_
    have S₄ := S₃.step e₄
    refine wpAny_Compare1 ?_
    refine r_cell (by kernel_rfl) ⟨o7, S₄.mem (.tail _ h7), hd7⟩ ?_ (by kernel_rfl) (by kernel_rfl) (by kernel_rfl)
    refine r_local S₄ (v := .str (wd d.i c) tb) (by exact hdu) ?_ (by kernel_rfl) (by kernel_rfl) (by kernel_rfl) (by kernel_rfl)
    refine P.eq_str ?_
    refine wpAny_isNot_plain rfl ?_
    refine wpAny_truthy_bool ?_
    rw [seqS_iff, beq_self_eq_true, Bool.not_true, if_neg (by decide)]
    refine wpAny_execs_nil ?_
    refine wpAny_execs_nil ?_
    exact ⟨_, _, S₄, rfl, hk.trans hk2, o7, _, h7, hd7⟩
  · rintro m' nw' s' ⟨rfl, hk, o6', v6', h6', hd6'⟩ S'
    walk_at "ec"
    walk_at "ret"
    refine wpAny_Constant_bool ?_
    exact h _ _ _ S'
end
end partMine39
section partMine40
set_option autoImplicit false
theorem cellsSix {cm : Str → Option Value} {n1 n2 n3 n4 n5 n6 : Str} {c1 c2 c3 c4 c5 c6 : Addr} {cells : Nw} (x : CellsAre cm [(n1, c1), (n2, c2), (n3, c3), (n4, c4), (n5, c5), (n6, c6)] cells) :
    ∃ o1 o2 o3 o4 o5 o6, cells = [(c1, o1), (c2, o2), (c3, o3), (c4, o4), (c5, o5), (c6, o6)] ∧ o1.data = .cell (cm n1) ∧ o2.data = .cell (cm n2) ∧ o3.data = .cell (cm n3) ∧ o4.data = .cell (cm n4) ∧ o5.data = .cell (cm n5) ∧ o6.data = .cell (cm n6) := by
  cases x with | cons h1 r => cases r with | cons h2 r => cases r with | cons h3 r => cases r with | cons h4 r => obtain ⟨o, o', rfl, h5, h6⟩ := r.two; exact ⟨_, _, _, _, _, _, rfl, h1, h2, h3, h4, h5, h6⟩
section
variable {w : World} {A : Around} {E : Value → Shared → Prop} {s₀ s : Shared} {L : Addr} {m : Str → Option Value} {news ex : Nw} {env : Env} {mg mb : Str → Option Value}
set_option maxHeartbeats 2000000 in
theorem c_law {a sa : Addr} {vs : List Value} {ns : List Int} {Q : Value → Shared → Prop} (R : Room A 4) (G : Gl w mg mb s.heap) (F : FnAt s.heap (D 24) a)
    (hs : s.heap.IsList sa vs.toArray) (hi : IntsAre vs ns) (hl : vs.length ≤ 1000)
    (h : ∀ L m' ex s', St s L m' ex s' → Q (.bool true) s') : wpAny (model P0 w) A (call (.ref a) [.ref sa]) Q E s := by
  refine enter (binds := [("script", .ref sa)]) R F G.nolimit (fun _ _ _ => rfl) (by kernel_rfl) (by decide +kernel) (fun cd s₁ cells S X => ?_) (cells_nodup _)
  obtain ⟨o6, o5, o4, o3, o2, o1, rfl, h6, h5, h4, h3, h2, h1⟩ := cellsSix X
  have R' : Room (A.deeper (lawE s.heap.objs.size a cd)) 3 := R.deeper
  refine law_partA R' G S hs hi hl h1 h2 h3 h4 fun d m1 ex1 s1 W1 q5 q6 S1 => ?_
  refine law_partB R' G S1 W1 q5 h5 fun m2 ex2 s2 o5' tn tr ac W2 q5' hd5' hre hco q6' S2 => ?_
  refine law_partC R' G S2 W2 q5' hd5' (q6' _ q6) h6 hre hco fun m3 ex3 s3 l k o6' v6' q63 hd63 W3 q53 hre3 hco3 hac3 hlm S3 => ?_
  refine law_partD R' G S3 W3 q53 hd5' fun ex4 s4 Dr ys k4 hx4 hDr hrows S4 => ?_
  have H4 : LawL d ⟨o5', tn, tr, ac, Dr, l, k, k4, ys⟩ s.heap.objs.size (fun y => if y = "rows" then some (.ref Dr) else m3 y) ex4 :=
    ⟨W3.mono hx4 rfl rfl rfl, ⟨hx4 _ q53, hd5'⟩, hre3, ⟨hco3, hx4 _ hac3, hlm⟩, ⟨rfl, hDr, hrows⟩⟩
  refine law_partE R' G S4 H4 (hx4 _ q63) hd63 fun m5 ex5 s5 o65 v65 H5 q65 hd65 S5 => ?_
  refine law_partF1 R' G S5 H5 fun c sa' ys' k' cs m6 ex6 s6 tb hc hx6 hm6 hsa hch hsp hsi hdu S6 => ?_
  have H6 := H5.keeps (KeepsNw.of_sub hx6) hm6
  refine law_partF2 R' G S6 H6 hc hsa hch hsp hsi hdu fun p m7 ex7 s7 tr7 hp hx7 hm7 hdu7 hri7 S7 => ?_
  have H7 := H6.keeps (KeepsNw.of_sub hx7) hm7
  refine law_partF3 R' G S7 H7 (hx7 _ (hx6 _ q65)) hd65 hc hp hdu7 hri7 fun m8 ex8 s8 S8 => ?_
  exact h _ _ _ _ S8
end
end partMine40
section partFin1
set_option autoImplicit false
abbrev fnI : List Nat := [2, 4, 7, 11, 12, 13, 15, 16, 17, 18, 19, 20, 21, 22, 23, 24]
theorem recs_qv : recsOf qv = fnI.map D := by kernel_rfl
theorem free_ok : ((["ord", "chr", "len", "sum", "range", "list"] : List Str).all fun x => !startupNames.contains x && !(looseW qv loosev).contains x && !((recsOf qv).map (·.name)).contains x && !((litsOf qv).map (·.1)).contains x && !((clssOf qv (looseW qv loosev)).map (·.name)).contains x) = true := by decide +kernel
theorem val_off : PyProof.Rows.valOf qv "NT_OFFSET" = some (.int 256) := by kernel_rfl
theorem val_end : PyProof.Rows.valOf qv "ENDMARKER" = some (.int 0) := by kernel_rfl
theorem val_dots : PyProof.Rows.valOf qv "ELLIPSIS_MARKER" = some (.str "...") := by kernel_rfl
theorem gl_of {R : WRecords} {XP : (Str → Option Value) → Heap → Prop} {w : World} {s₀ : Shared} {mg mb : Str → Option Value} {h : Heap} (G : Ground qv loosev R XP w s₀ mg mb h) (y : Yp w h) : Gl w mg mb h := by
  obtain ⟨m, h1, h2, h3, h4, h5⟩ := y
  obtain rfl := ns_unique h1 G.T.g
  refine ⟨G.T.g, G.T.b, G.T.nolimit, G.T.builtins, fun x hx => ?_, fun i hi => ?_, ?_, ?_, ?_, ⟨22, h2, set_b1 h4⟩, ⟨33, h3, tab_b3 h5⟩⟩
  · have := List.all_eq_true.mp free_ok x hx
    simp only [Bool.and_eq_true, Bool.not_eq_true'] at this
    obtain ⟨⟨⟨⟨q1, q2⟩, q3⟩, q4⟩, q5⟩ := this
    have no : ∀ {l : List Str}, l.contains x = false → x ∉ l := fun e hm => by rw [List.contains_iff_mem.mpr hm] at e; cases e
    exact G.T.free x (no q1) (no q2) (no q3) (no q4) (no q5)
  · obtain ⟨a, o, pm, cd, doc, g1, g2, g3, g4⟩ := G.T.fn (D i) (by rw [recs_qv]; exact List.mem_map.mpr ⟨i, hi, rfl⟩)
    exact ⟨a, g1, o, pm, cd, doc, g2, g3, g4⟩
  · obtain ⟨v, g1, g2⟩ := G.T.const _ _ val_off
    obtain ⟨t, rfl⟩ := PyProof.V.Flat.int_inv g2
    exact ⟨t, g1⟩
  · obtain ⟨v, g1, g2⟩ := G.T.const _ _ val_end
    obtain ⟨t, rfl⟩ := PyProof.V.Flat.int_inv g2
    exact ⟨t, g1⟩
  · obtain ⟨v, g1, g2⟩ := G.T.const _ _ val_dots
    obtain ⟨t, rfl⟩ := PyProof.V.Flat.str_inv g2
    exact ⟨t, g1⟩
theorem room_caller : Room callerA 4 := ⟨rfl, by decide, by decide⟩
abbrev rowR : OpenRow := PySem.Challenge.rw_sl0020_01.row
theorem look1 : sreFenced P0.main = true := by
  rw [PySem.W.Fast.te11788848310118352699]; kernel_rfl
theorem look2 : ((moduleNames P0.main.body).isEmpty || lookedIntoSs (moduleNames P0.main.body) P0.main.body) = true := by kernel_rfl
theorem look3 : namesResolve P0 = true := by
  rw [PySem.W.Fast.te8377067652309620493]; kernel_rfl
theorem look4 : (P0.boundNames.all fun n => !worldNames.contains n) = true := by kernel_rfl
theorem look5 : noRoadLSs { strict := !(importedModules P0.main.body).all cThrough.contains, foot := none, bare := (["vars", "dir", "locals"] : List Str).filter (readsOut P0 P0.main.body) } P0.main.body = true := by
  rw [PySem.W.Fast.te8326940854005059898]; kernel_rfl
theorem look6 : (namesMeet P0 P0.main.body fun _ n => attrL n) = true := by
  rw [PySem.W.Fast.te17119622794617984870]; kernel_rfl
theorem looks_ok : looksOpen P0 = true := look_both (look_both (look_both (look_both (look_both look1 look2) look3) look4) look5) look6
theorem part_ok : rowR.partSaid = true := by
  unfold OpenRow.partSaid
  repeat' (with_reducible refine look_both ?_ ?_)
  · exact looks_ok
  all_goals kernel_rfl
theorem row_ok : rowR.wellSaid = true := by
  unfold OpenRow.wellSaid
  refine look_both (look_both part_ok ?_) ?_
  all_goals kernel_rfl
theorem law_ok : PySem.Challenge.rw_sl0020_01.wellSaid = true := by
  unfold OpenLaw.wellSaid
  repeat' (with_reducible refine look_both ?_ ?_)
  · exact row_ok
  all_goals kernel_rfl
theorem walk : WalkO qv loosev (fun _ _ => True) Yp rowR.toRowW (D 24) [] fun f vs => PySem.call f vs := by
  intro w s₀ s₁ mg mb G Y fa o pm cd doc dV kV ho hd hcd hD hmg hg args vals as hpre hlay hrd hwl hlo
  have GL := gl_of G Y
  obtain ⟨a', q1, F⟩ := GL.fn 24 (by decide)
  obtain rfl : a' = fa := by rw [hmg] at q1; cases q1; rfl
  wrow_args hpre hlay hrd hwl hlo
  rename_i ns _ _ _ _ _ _ _ sa vs _ hL _ _ _ hI _ hlen _
  have hvl := ints_len hI
  show wpAny (model P0 w) callerA (call (.ref a') [.ref sa]) _ _ s₁
  refine c_law room_caller GL F hL hI (by omega) fun L m' ex s' S => ?_
  refine GoodW.toG (goodW_bool S.fr (S.gens.trans hg) (fun _ => rfl) ?_ S.os)
  wrow_post
theorem witness_ok : rowR.toRowW.promised := ⟨[WData.list []], by decide +kernel, by decide +kernel⟩
theorem row_holds (k1 : rowR.wellSaid = true) (hw : rowR.toRowW.promised) : rowR.Holds := by
  refine holds_open (r := rowR) (q := qv) (loose := loosev) (Xt := Xtv) (XP := fun _ _ => True) (Yf := Yfv) (Ya := Yav) (YP := Yp) (d := D 24) (kwd := []) (N := 20000) left (fun w s e => Yp.of w s e) Yp.keeps (fun _ _ => trivial) (fun _ _ _ _ _ => trivial) ?_ ?_ ?_ (fun s _ => recFacts_of (R := []) rfl) rfl k1 ?_ ⟨rfl, rfl, rfl, rfl, rfl, ?_⟩ hw walk
  · kernel_rfl
  · kernel_rfl
  · rfl
  · decide +kernel
  · decide +kernel
end partFin1
end walked
end Mine
theorem PySem.Challenge.cw_sl0020_01_holds : PySem.Challenge.rw_sl0020_01.Holds := by
  exact holds_law Mine.law_ok fun k1 => Mine.row_holds k1 Mine.witness_ok
