import PyProof.Rows.All
import Wide.All
import OpenK.AllK
import Wide.FinOn
import PySem.Challenge.RW_dm0081_05
set_option Elab.async false
section
open PySem PySem.W PyProof.Rows
set_option maxRecDepth 100000
set_option maxHeartbeats 8000000
namespace Mine
abbrev pw : Program := PySem.Challenge.pw_dm0081_05
def notAssign : Stmt → Bool
  | .Assign .. => false
  | _ => true
def viewOf (p : Program) : Program := { p with main := { p.main with body := p.main.body.filter notAssign } }
abbrev view : Program := viewOf pw
def loose : List PySem.Str := ["TokenList", "WhiteSpaceTokenList", "CFWSList", "QuotedString", "BareQuotedString", "Attribute", "Value", "Terminal", "WhiteSpaceTerminal", "ValueTerminal"]
theorem pairUp {a b c : Prop} (f : a → b → c) (x : a ∧ b) : c := f x.1 x.2
local macro_rules | `(tactic| k_head) => `(tactic| x_head)
local macro_rules | `(tactic| o_head $H) => `(tactic| (
  rename_i said; refine pairUp (fun hl hc => holds_open (q := Mine.view) (loose := Mine.loose)
    (Xt := fun s => xlAt Mine.view [] s && recOk (RowW.records PySem.Challenge.rw_dm0081_05.row.toRowW) s) (XP := XL Mine.view []) (Yf := Hook.obs $H) (Ya := Hook.val $H) (YP := Hook.says $H) (N := 8936) hl (Hook.of $H) (Hook.keeps $H) (fun s e => xl_of s (Bool.and_eq_true_iff.mp e).1) XL.keeps (by rfl) (by rfl) (by rfl) (fun s e => recFacts_of (Bool.and_eq_true_iff.mp e).2) (by rfl) said (by decide +kernel) ⟨rfl, rfl, rfl, rfl, rfl, by decide +kernel⟩ ?hw hc) ?hc))
open_top hd for PySem.Challenge.rw_dm0081_05
end Mine

end
section
open PySem PySem.W PyProof.Rows
set_option maxRecDepth 100000
set_option maxHeartbeats 8000000
namespace Mine
/-- the frame of the top -/
def envP (p : Program) : Env := { scope := p.main.scope, locals := mainNs, globals := mainNs, cells := [], code := .ref 13, frame := some 14 }
def posQ : Pos := { line := 0, col := 0, endLine := 0, endCol := 0 }
def codeP (p : Program) : Code := .body (behindTheImports p) (envP p)
abbrev annQ : Option Value := some (.ref 6)
abbrev botQ : List Frame := [topFrame posQ]
noncomputable def stB (w : World) (os : OsState) : Shared := ⟨boot_heap w.params, Array.mk [], boot_drawn, boot_toks, os⟩
/-- the state behind the top's first steps -/
noncomputable def stA (p : Program) (w : World) (os : OsState) : Shared := match PySem.W.Fast.tw15667345088766844465 PySem.W.Fast.tw14364793385576792824 p w 11 annQ 12 (stB w os) (topStub p) with
  | some (s, _) => s
  | none => stB w os
/-- every other object -/
def odds : List Obj → List Obj
  | x :: _ :: l => x :: odds l
  | l => l
def evens : List Obj → List Obj
  | _ :: y :: l => y :: evens l
  | _ => []
/-- the tree of a list of objects -/
def treeL : Nat → List Obj → BT
  | 0, _ => .nil
  | _ + 1, [] => .nil
  | f + 1, x :: l => .node x (treeL f (odds l)) (treeL f (evens l))
noncomputable def stT (p : Program) (w : World) (os : OsState) : SharedT := ⟨treeL 10 (stA p w os).heap.objs.toList, 15, {}, Array.mk [], boot_drawn, (stA p w os).toks, os⟩
abbrev asksP (p : Program) (h : Heap) (s : Shared) (b : Heap) : Bool := staticsOk (importedModules p.main.body) b h && namesBound p h && gensDone s && laidKept b h
abbrev xtP (p : Program) (s : Shared) : Bool := xlAt (viewOf p) [] s && recOk (RowW.records PySem.Challenge.rw_dm0081_05.row.toRowW) s
end Mine
namespace Mine
theorem pre_q : ∀ w : World, (fun os => PySem.W.Fast.tw15667345088766844465 PySem.W.Fast.tw14364793385576792824 PySem.W.Fast.tw18071725211177520011 w 11 annQ 12 (stB w os) (topStub PySem.W.Fast.tw18071725211177520011)) =
    (fun os => some ((stT PySem.W.Fast.tw18071725211177520011 w os).abs, ⟨PySem.W.Fast.tw11892475500146522536 PySem.W.Fast.tw14364793385576792824 (codeP PySem.W.Fast.tw18071725211177520011), codeP PySem.W.Fast.tw18071725211177520011, posQ, botQ⟩)) := by
  intro w; kernel_rfl
/-- the written objects and the others, in a row -/
def cutList : Nat → Nat → Frag → (Nat → Obj) → (Nat → Obj → Obj) → List Obj
  | 0, _, _, _, _ => []
  | n + 1, i, [], g, f => g i :: cutList n (i + 1) [] g f
  | n + 1, i, (a, o) :: l, g, f => match Nat.beq a i with
    | true => f i o :: cutList n (i + 1) l g f
    | false => g i :: cutList n (i + 1) ((a, o) :: l) g f
/-- main's names as they stood -/
def cutDict (n : Nat) (nm : Value) : Obj → Obj
  | ⟨c, d, .dict es _, sl⟩ => ⟨c, d, .dict ⟨(match es.toList.take n with
    | e :: l => { e with val := nm } :: l
    | [] => [])⟩ n, sl⟩
  | o => o
def cutFields (n : Nat) : Obj → Obj
  | ⟨c, d, .fields vs, sl⟩ => ⟨c, d, .fields ⟨vs.toList.take n⟩, sl⟩
  | o => o
def cutSubs (n : Nat) : Obj → Obj
  | ⟨c, d, .cls k, sl⟩ => ⟨c, d, .cls { k with subclasses := k.subclasses.take n }, sl⟩
  | o => o
def oldName : Value := .str "cpy313.email._header_value_parser" 194
/-- the objects that turn later, as they stood: the statics, main's names, the positions of the codes, the subclasses -/
def stood (n3 n12 n139 n169 n217 : Nat) : Nat → Obj → Obj := fun a o =>
  match Nat.beq a 2 with
  | true => ⟨.none, none, .dict ⟨[]⟩ 0, ⟨[]⟩⟩
  | false => match Nat.beq a 3 with
    | true => cutDict n3 oldName o
    | false => match Nat.beq a 12 with
      | true => cutFields n12 o
      | false => match Nat.beq a 139 with
        | true => cutSubs n139 o
        | false => match Nat.beq a 169 with
          | true => cutSubs n169 o
          | false => match Nat.beq a 217 with
            | true => cutSubs n217 o
            | false => o
/-- the object that a run leaves at a place -/
def objOf (r : Option (Flow × SharedT × Code × Pos)) (a : Nat) : Obj := match r with
  | some (_, s, _, _) => (match s.tree.get a with
    | some o => o
    | none => default)
  | none => default
noncomputable abbrev goQ (w : World) (n : Nat) (s : SharedT) (l : List Stmt) (p : Pos) : Option (Flow × SharedT × Code × Pos) := PySem.W.Fast.tw10110043849684766642 PySem.W.Fast.tw14364793385576792824 PySem.W.Fast.tw18071725211177520011 w 11 annQ 1 n s (piecesOf l (envP PySem.W.Fast.tw18071725211177520011) (codeP PySem.W.Fast.tw18071725211177520011) p botQ)
noncomputable abbrev bodyQ : List Stmt := behindTheImports PySem.W.Fast.tw18071725211177520011
def posQ1 : Pos := { line := 10, col := 0, endLine := 54, endCol := 16 }
noncomputable def rQ1 (w : World) (os : OsState) : Option (Flow × SharedT × Code × Pos) := goQ w 1000 (stT PySem.W.Fast.tw18071725211177520011 w os) (bodyQ.take 5) posQ
noncomputable def gQ1 (w : World) (os : OsState) (a : Nat) : Obj := objOf (rQ1 w os) a
noncomputable def sQ1 (w : World) (os : OsState) : SharedT := ⟨treeL 10 (cutList 144 0 (Mine.hd.heap_39 w.params) (gQ1 w os) (stood 13 12 0 0 0)), 144, {}, ⟨[]⟩, {}, 335, os⟩
theorem go_q1 : ∀ w : World, (fun os => rQ1 w os) = fun os => some (.next, sQ1 w os, codeP PySem.W.Fast.tw18071725211177520011, posQ1) := by
  intro w; kernel_rfl
def posQ2 : Pos := { line := 66, col := 0, endLine := 81, endCol := 34 }
noncomputable def rQ2 (w : World) (os : OsState) : Option (Flow × SharedT × Code × Pos) := goQ w 1201 (sQ1 w os) ((bodyQ.drop 5).take 3) posQ1
noncomputable def gQ2 (w : World) (os : OsState) (a : Nat) : Obj := match Nat.blt a 144 with
  | true => gQ1 w os a
  | false => objOf (rQ2 w os) a
noncomputable def sQ2 (w : World) (os : OsState) : SharedT := ⟨treeL 10 (cutList 220 0 (Mine.hd.heap_39 w.params) (gQ2 w os) (stood 16 21 2 1 0)), 220, {}, ⟨[]⟩, {}, 428, os⟩
theorem go_q2 : ∀ w : World, (fun os => rQ2 w os) = fun os => some (.next, sQ2 w os, codeP PySem.W.Fast.tw18071725211177520011, posQ2) := by
  intro w; kernel_rfl
def posQ3 : Pos := { line := 99, col := 0, endLine := 109, endCol := 25 }
noncomputable def rQ3 (w : World) (os : OsState) : Option (Flow × SharedT × Code × Pos) := goQ w 1202 (sQ2 w os) ((bodyQ.drop 8).take 3) posQ2
noncomputable def gQ3 (w : World) (os : OsState) (a : Nat) : Obj := match Nat.blt a 220 with
  | true => gQ2 w os a
  | false => objOf (rQ3 w os) a
noncomputable def sQ3 (w : World) (os : OsState) : SharedT := ⟨treeL 10 (cutList 287 0 (Mine.hd.heap_39 w.params) (gQ3 w os) (stood 19 30 4 1 1)), 287, {}, ⟨[]⟩, {}, 515, os⟩
theorem go_q3 : ∀ w : World, (fun os => rQ3 w os) = fun os => some (.next, sQ3 w os, codeP PySem.W.Fast.tw18071725211177520011, posQ3) := by
  intro w; kernel_rfl
def posQ4 : Pos := { line := 162, col := 0, endLine := 190, endCol := 15 }
noncomputable def rQ4 (w : World) (os : OsState) : Option (Flow × SharedT × Code × Pos) := goQ w 1603 (sQ3 w os) (bodyQ.drop 11) posQ3
noncomputable def gQ4 (w : World) (os : OsState) (a : Nat) : Obj := match Nat.blt a 287 with
  | true => gQ3 w os a
  | false => objOf (rQ4 w os) a
noncomputable def sQ4 (w : World) (os : OsState) : SharedT := ⟨treeL 10 (cutList 430 0 (Mine.hd.heap_39 w.params) (gQ4 w os) (fun _ o => o)), 430, {}, ⟨[]⟩, {}, 686, os⟩
theorem go_q4 : ∀ w : World, (fun os => rQ4 w os) = fun os => some (.next, sQ4 w os, codeP PySem.W.Fast.tw18071725211177520011, posQ4) := by
  intro w; kernel_rfl
theorem asks_q : ∀ w : World, (fun os => (asksP PySem.W.Fast.tw18071725211177520011 (sQ4 w os).abs.heap (sQ4 w os).abs (boot_heap w.params), PySem.W.Fast.tw4187177175401517315 (viewOf PySem.W.Fast.tw18071725211177520011) loose (importedModules PySem.W.Fast.tw18071725211177520011.main.body) (xtP PySem.W.Fast.tw18071725211177520011) true (sQ4 w os).abs)) = fun _ => (true, openGood (viewOf PySem.W.Fast.tw18071725211177520011) loose) := by
  intro w; kernel_rfl
theorem hook_q : ∀ w : World, (fun os => (Mine.hd.heap_39 w.params).map fun p => (Nat.blt p.1 (sQ4 w os).n, (sQ4 w os).tree.get p.1)) = fun _ => (Mine.hd.heap_39 w.params).map fun p => (true, some p.2) := by
  intro w; kernel_rfl
end Mine

end
section
open PySem PySem.W PyProof.Rows
set_option maxRecDepth 100000
set_option maxHeartbeats 8000000
namespace Mine
noncomputable abbrev lawP : Program := PySem.Challenge.pw_dm0081_05
noncomputable abbrev lawT : Program := PySem.W.Fast.tw18071725211177520011
theorem pre_r (w : World) (os : OsState) : topGo treeTable lawP w 11 annQ 12 (stB w os) (topStub lawP) = some ((stT lawT w os).abs, ⟨denote treeTable (codeP lawP), codeP lawP, posQ, botQ⟩) := by
  rw [PySem.W.Fast.te15667345088766844465, PySem.W.Fast.te14364793385576792824, PySem.W.Fast.te11892475500146522536, show lawP = lawT from PySem.W.Fast.te18071725211177520011]
  exact congrFun (pre_q w) os
theorem raw_r {w : World} {n : Nat} {s : SharedT} {l : List Stmt} {p : Pos} {r : Option (Flow × SharedT × Code × Pos)} (h : goQ w n s l p = r) :
    segRunT treeTable lawP w 11 annQ 1 n s (piecesOf l (envP lawP) (codeP lawP) p botQ) = r := by
  rw [PySem.W.Fast.te10110043849684766642, PySem.W.Fast.te14364793385576792824, show lawP = lawT from PySem.W.Fast.te18071725211177520011]
  exact h
theorem asks_r (w : World) (os : OsState) : asksP lawP (sQ4 w os).abs.heap (sQ4 w os).abs (boot_heap w.params) = true ∧ openSeen (viewOf lawP) loose (importedModules lawP.main.body) (xtP lawP) true (sQ4 w os).abs = openGood (viewOf lawP) loose := by
  rw [PySem.W.Fast.te4187177175401517315, show lawP = lawT from PySem.W.Fast.te18071725211177520011]
  exact Prod.mk.inj (congrFun (asks_q w) os)
/-- the written part stands in the tree -/
theorem seen_tree {S : SharedT} : ∀ {K : Frag}, K.map (fun p => (Nat.blt p.1 S.n, S.tree.get p.1)) = K.map (fun p => (true, some p.2)) → K.all (fun p => (alive p.2).isSome) = true → (K.map (·.1)).map S.abs.heap.get? = K.map fun p => some p.2
  | [], _, _ => rfl
  | (a, o) :: K, e, h => by
    simp only [List.map_cons, List.cons.injEq, Prod.mk.injEq] at e
    simp only [List.all_cons, Bool.and_eq_true] at h
    obtain ⟨⟨e1, e2⟩, e3⟩ := e
    simp only [List.map_cons, List.cons.injEq]
    refine ⟨?_, seen_tree e3 h.2⟩
    have e4 := abs_get (life := S.life) (Nat.le_of_ble_eq_true e1 : a < S.n) e2
    refine Eq.trans (b := alive o) e4 ?_
    obtain ⟨q, hq⟩ := Option.isSome_iff_exists.mp h.1
    obtain ⟨cc, d, dt, sl⟩ := o
    cases dt <;> first | rfl | cases hq
theorem alive_K : ∀ P : Params, (Mine.hd.heap_39 P).all (fun p => (alive p.2).isSome) = true := by intro P; kernel_rfl
theorem boot_q : opening lawP = plainProg lawP.main.scope.names := by kernel_rfl
theorem fence_q : ∀ s, fenceModules? lawP s = some s := by intro s; kernel_rfl
theorem size_q : ∀ w : World, ((boot_heap w.params).isNs mainGlobals && (Array.mk [] : Array GenState).size == 0, (boot_heap w.params).objs.size, (boot_heap w.params).nsMap mainGlobals "__annotations__") = (true, 11, annQ) := by intro w; kernel_rfl
theorem fin_r (w : World) (s : Shared) (p : Program) (c : Code) (q : Pos) : topRun treeTable p w 11 annQ 2 s ⟨doneF .next, c, q, botQ⟩ = some s := rfl
theorem blk_r (w : World) (s : Shared) : segRun treeTable lawP w 11 annQ 1 1 s (blockOf (behindTheImports lawP) (envP lawP) (codeP lawP) posQ botQ) = some (.next, s, codeP lawP, posQ) := by kernel_rfl

theorem split_r (b : List Stmt) : b.take 5 ++ ((b.drop 5).take 3 ++ ((b.drop 8).take 3 ++ (b.drop 11 ++ []))) = b := by
  rw [List.append_nil, show b.drop 11 = (b.drop 8).drop 3 by rw [List.drop_drop], List.take_append_drop, show b.drop 8 = (b.drop 5).drop 3 by rw [List.drop_drop], List.take_append_drop, List.take_append_drop]
theorem chain_r {w : World} {s0 s1 s2 s3 s4 : SharedT} {b : List Stmt} {p0 p1 p2 p3 p4 : Pos} {n1 n2 n3 n4 : Nat}
    (h1 : segRunT treeTable lawP w 11 annQ 1 n1 s0 (piecesOf (b.take 5) (envP lawP) (codeP lawP) p0 botQ) = some (.next, s1, codeP lawP, p1))
    (h2 : segRunT treeTable lawP w 11 annQ 1 n2 s1 (piecesOf ((b.drop 5).take 3) (envP lawP) (codeP lawP) p1 botQ) = some (.next, s2, codeP lawP, p2))
    (h3 : segRunT treeTable lawP w 11 annQ 1 n3 s2 (piecesOf ((b.drop 8).take 3) (envP lawP) (codeP lawP) p2 botQ) = some (.next, s3, codeP lawP, p3))
    (h4 : segRunT treeTable lawP w 11 annQ 1 n4 s3 (piecesOf (b.drop 11) (envP lawP) (codeP lawP) p3 botQ) = some (.next, s4, codeP lawP, p4)) :
    topRun treeTable lawP w 11 annQ (n1 + (n2 + (n3 + (n4 + 2)))) s0.abs (restOf b (envP lawP) (codeP lawP) p0 botQ) = some s4.abs := by
  have a := piece_app (segRun_of h1) (piece_app (segRun_of h2) (piece_app (segRun_of h3) (piece_app (segRun_of h4) (piece_nil (fin_r w s4.abs lawP (codeP lawP) p4)))))
  rw [split_r] at a
  exact a
theorem body_r : bodyQ = behindTheImports lawP := by
  rw [show lawP = lawT from PySem.W.Fast.te18071725211177520011]
theorem runs_r (w : World) (os : OsState) : topRun treeTable lawP w 11 annQ (1000 + (1201 + (1202 + (1603 + 2)))) (stT lawT w os).abs (restOf bodyQ (envP lawP) (codeP lawP) posQ botQ) = some (sQ4 w os).abs :=
  chain_r (raw_r (congrFun (go_q1 w) os)) (raw_r (congrFun (go_q2 w) os)) (raw_r (congrFun (go_q3 w) os)) (raw_r (congrFun (go_q4 w) os))
theorem top_r {S : Shared} {N : Nat} (w : World) (os : OsState) (all : topRun treeTable lawP w 11 annQ N (stT lawT w os).abs (restOf (behindTheImports lawP) (envP lawP) (codeP lawP) posQ botQ) = some S) :
   topRun treeTable lawP w 11 annQ (12 + (1 + N)) (stB w os) (topStub lawP) = some S :=
   go_top (pre_r w os) (piece_block (blk_r w (stT lawT w os).abs) all)
theorem mono_r {S : Shared} (w : World) (os : OsState) (top : topRun treeTable lawP w 11 annQ (12 + (1 + (1000 + (1201 + (1202 + (1603 + 2)))))) (stB w os) (topStub lawP) = some S) : topRun treeTable lawP w 11 annQ 8936 (stB w os) (topStub lawP) = some S := by
  have n : 8936 = 12 + (1 + (1000 + (1201 + (1202 + (1603 + 2))))) + 3915 := rfl
  rw [n]
  exact topRun_mono 3915 _ _ _ _ top
theorem hook_r {S : SharedT} (P : Params) (e3 : (Mine.hd.heap_39 P).map (fun p => (Nat.blt p.1 S.n, S.tree.get p.1)) = (Mine.hd.heap_39 P).map fun p => (true, some p.2)) :
   ((Mine.hd.heap_39 P).map (·.1)).map S.abs.heap.get? = (Mine.hd.heap_39 P).map fun p => some p.2 := seen_tree e3 (alive_K P)
/-- the top's run, whole -/
theorem run_r (w : World) (os : OsState) : ∃ S : SharedT, topRun treeTable lawP w 11 annQ 8936 (stB w os) (topStub lawP) = some S.abs ∧
    asksP lawP S.abs.heap S.abs (boot_heap w.params) = true ∧ openSeen (viewOf lawP) loose (importedModules lawP.main.body) (xtP lawP) true S.abs = openGood (viewOf lawP) loose ∧
    ((Mine.hd.heap_39 w.params).map (·.1)).map S.abs.heap.get? = (Mine.hd.heap_39 w.params).map fun p => some p.2 :=
  ⟨sQ4 w os, mono_r w os (top_r w os (body_r ▸ runs_r w os)), (asks_r w os).1, (asks_r w os).2, hook_r w.params (congrFun (hook_q w) os)⟩
theorem from_r {tb : String → Option Builtin} {p : Program} {w : World} {N m : Nat} {an : Option Value} {s₀ s₁ : Shared} (z1 : (s₀.heap.isNs mainGlobals && s₀.gens.size == 0) = true) (z2 : s₀.heap.objs.size = m)
    (z3 : s₀.heap.nsMap mainGlobals "__annotations__" = an) (r : topRun tb p w m an N s₀ (topStub p) = some s₁) (a : asksP p s₁.heap s₁ s₀.heap = true) : topFrom tb p w N s₀ = some s₁ := by
  unfold topFrom
  rw [z1, z2, z3, r]
  show (match asksP p s₁.heap s₁ s₀.heap with | true => some s₁ | false => none) = _
  rw [a]
theorem ends_r {tb : String → Option Builtin} {p : Program} {w : World} {N : Nat} {s₀ s₁ : Shared} {β : Type} {f : Shared → β} {v : β} (e : fencedOpening tb p w N = some s₀) (t : topFrom tb p w N s₀ = some s₁) (h : f s₁ = v) : (openEnds tb p w N).map f = some v := by
  unfold openEnds
  rw [e]
  show (topFrom tb p w N s₀).map f = _
  rw [t, ← h]
  rfl
theorem begin_r (w : World) : ∃ os : OsState, fencedOpening treeTable lawP w 8936 = some (stB w os) := by
  obtain ⟨⟨h, gs, d, k, os⟩, e, e'⟩ := Option.map_eq_some_iff.mp (boot_open (p := lawP) (N := 8936) boot_q (Nat.ble_eq_true_of_le (by omega)) fence_q w)
  simp only [Prod.mk.injEq] at e'
  obtain ⟨rfl, rfl, rfl, rfl⟩ := e'
  exact ⟨os, e⟩
theorem left_r (as : List Addr) (ea : ∀ P, as = (Mine.hd.heap_39 P).map (·.1)) : LeftO lawP Mine.view Mine.loose (fun s => xlAt Mine.view [] s && recOk (RowW.records PySem.Challenge.rw_dm0081_05.row.toRowW) s)
    (kHook Mine.hd.heap_39 as ea).obs (kHook Mine.hd.heap_39 as ea).val 8936 := fun w => by
  obtain ⟨os, e⟩ := begin_r w
  obtain ⟨S, r, a1, a2, a3⟩ := run_r w os
  obtain ⟨z1, z2⟩ := Prod.mk.inj (size_q w)
  obtain ⟨z2, z3⟩ := Prod.mk.inj z2
  exact ends_r e (from_r (s₀ := stB w os) z1 z2 z3 r a1) (Prod.ext a2 ((congrArg (List.map S.abs.heap.get?) (ea w.params)).trans a3))
end Mine

end
section
open PySem PySem.W PyProof.Rows PySem.Calls
set_option maxRecDepth 100000
namespace Mine
/-- all of the written part but the four tables that generator expressions write -/
def nt (p : Addr × Obj) : Bool := !(Nat.beq p.1 53 || Nat.beq p.1 68 || Nat.beq p.1 228 || Nat.beq p.1 235)
noncomputable abbrev KK (w : World) : Frag := (Mine.hd.heap_39 w.params).filter nt
abbrev prg : Program := PySem.Challenge.pw_dm0081_05
abbrev MM (w : World) : Model := model prg w

/-- room around -/
structure Small (A : Around) (n : Nat) : Prop where
  hd : A.handled = none
  dp : A.depth + n ≤ 900
  un : A.units + 10 * n ≤ 9000

theorem Small.weaken {A : Around} {n m : Nat} (h : Small A n) (hm : m ≤ n) : Small A m := ⟨h.hd, by have := h.dp; omega, by have := h.un; omega⟩
theorem Small.in1 {A : Around} {n : Nat} (h : Small A (n + 1)) : Small A.in1 n := ⟨h.hd, by have := h.dp; simp only; omega, by have := h.un; simp only; omega⟩
theorem Small.deeper {A : Around} {n : Nat} {env : Env} (h : Small A (n + 1)) : Small (A.deeper env) n := ⟨h.hd, by have := h.dp; simp only [Around.deeper]; omega, by have := h.un; simp only [Around.deeper]; omega⟩
theorem Small.under {A : Around} {n : Nat} {c : Code} (h : Small A (n + 1)) (hw : c.weight ≤ 1) (hu : c.cUnits ≤ 10) : Small (A.under c) n := ⟨h.hd, by have := h.dp; simp only [Around.under]; omega, by have := h.un; simp only [Around.under]; omega⟩
theorem Small.room {A : Around} {n : Nat} (h : Small A n) : A.depth < recursionLimit := by have := h.dp; unfold recursionLimit; omega
theorem Small.units {A : Around} {n : Nat} (h : Small A n) : A.units < cLine := by have := h.un; unfold cLine; omega

abbrev Keep (h h' : Heap) : Prop := ∀ b o, h.get? b = some o → h'.get? b = some o

/-- the codes whose tables turn, and the tables -/
def tabL : List (Addr × Addr) := [(57, 53), (72, 68), (232, 228), (239, 235)]
def tabA : List Addr := [53, 68, 228, 235]
def TabAt (h : Heap) (c P : Addr) : Prop := ∃ ps, h.IsCode c P ps ∧ h.TableAt c P ps
structure Tab (h : Heap) : Prop where
  a : TabAt h 57 53
  b : TabAt h 72 68
  c : TabAt h 232 228
  d : TabAt h 239 235
theorem Tab.at {h : Heap} (T : Tab h) {c P : Addr} (hm : (c, P) ∈ tabL) : TabAt h c P := by
  simp only [tabL, List.mem_cons, Prod.mk.injEq, List.mem_nil_iff, or_false] at hm
  rcases hm with ⟨rfl, rfl⟩ | ⟨rfl, rfl⟩ | ⟨rfl, rfl⟩ | ⟨rfl, rfl⟩
  · exact T.a
  · exact T.b
  · exact T.c
  · exact T.d
theorem TabAt.keeps {h h' : Heap} {c P : Addr} (x : TabAt h c P) (k : Keep h h') : TabAt h' c P := let ⟨ps, a, b⟩ := x; ⟨ps, a.keeps k, b.keeps k⟩
theorem Tab.keeps {h h' : Heap} (T : Tab h) (k : Keep h h') : Tab h' := ⟨T.a.keeps k, T.b.keeps k, T.c.keeps k, T.d.keeps k⟩

/-- the objects that are no table -/
def Solid (o : Obj) : Prop := o.cls ≠ .none ∨ ∀ vs, o.data ≠ .fields vs
theorem Tab.not {h : Heap} (T : Tab h) {b : Addr} {o : Obj} (e : h.get? b = some o) (hs : Solid o) : b ∉ tabA := by
  have key : ∀ {c P : Addr}, TabAt h c P → b ≠ P := by
    rintro c P ⟨ps, _, _, hp⟩ rfl
    rw [hp] at e
    cases e
    rcases hs with hs | hs
    · exact hs rfl
    · exact hs _ rfl
  intro hm
  simp only [tabA, List.mem_cons, List.mem_nil_iff, or_false] at hm
  rcases hm with rfl | rfl | rfl | rfl
  · exact key T.a rfl
  · exact key T.b rfl
  · exact key T.c rfl
  · exact key T.d rfl

/-- a table grows at its end -/
def GrowsAt (h h' : Heap) (c P : Addr) : Prop := ∀ ps, h.IsCode c P ps → h.TableAt c P ps → ∃ more, h'.IsCode c P (ps ++ more) ∧ h'.TableAt c P (ps ++ more)
theorem GrowsAt.trans {a b d : Heap} {c P : Addr} (x : GrowsAt a b c P) (y : GrowsAt b d c P) : GrowsAt a d c P := fun ps p q => by
  obtain ⟨m, p1, q1⟩ := x ps p q
  obtain ⟨m', p2, q2⟩ := y _ p1 q1
  exact ⟨m ++ m', by rw [← Array.append_assoc]; exact p2, by rw [← Array.append_assoc]; exact q2⟩
/-- every old object is kept, the tables may grow, and the objects that x tells may turn -/
structure KeepX (X : Addr → Prop) (h h' : Heap) : Prop where
  kp : ∀ b o, h.get? b = some o → b ∉ tabA → ¬ X b → h'.get? b = some o
  gr : ∀ c P, (c, P) ∈ tabL → GrowsAt h h' c P
abbrev KeepT (h h' : Heap) : Prop := KeepX (fun _ => False) h h'
theorem GrowsAt.of_keep {h h' : Heap} {c P : Addr} (k : Keep h h') : GrowsAt h h' c P := fun ps p q => ⟨#[], by rw [Array.append_empty]; exact p.keeps k, by rw [Array.append_empty]; exact q.keeps k⟩
theorem KeepT.of_keep {X : Addr → Prop} {h h' : Heap} (k : Keep h h') : KeepX X h h' := ⟨fun b o e _ _ => k b o e, fun _ _ _ => .of_keep k⟩
theorem KeepX.refl (X : Addr → Prop) (h : Heap) : KeepX X h h := KeepT.of_keep fun _ _ e => e
theorem KeepX.trans {X : Addr → Prop} {a b c : Heap} (x : KeepX X a b) (y : KeepX X b c) : KeepX X a c :=
  ⟨fun p o e n m => y.kp p o (x.kp p o e n m) n m, fun c P hm => (x.gr c P hm).trans (y.gr c P hm)⟩
theorem KeepX.weaken {X Y : Addr → Prop} {a b : Heap} (x : KeepX X a b) (h : ∀ b, X b → Y b) : KeepX Y a b := ⟨fun p o e n m => x.kp p o e n fun q => m (h _ q), x.gr⟩
theorem KeepX.tab {X : Addr → Prop} {a b : Heap} (k : KeepX X a b) (T : Tab a) : Tab b := by
  have key : ∀ {c P : Addr}, (c, P) ∈ tabL → TabAt a c P → TabAt b c P := fun hm ⟨ps, p, q⟩ => let ⟨m, p', q'⟩ := k.gr _ _ hm ps p q; ⟨_, p', q'⟩
  exact ⟨key (by decide) T.a, key (by decide) T.b, key (by decide) T.c, key (by decide) T.d⟩
theorem KeepX.get {X : Addr → Prop} {a b : Heap} (k : KeepX X a b) (T : Tab a) {p : Addr} {o : Obj} (e : a.get? p = some o) (hs : Solid o) (hx : ¬ X p) : b.get? p = some o := k.kp p o e (T.not e hs) hx
theorem KeepT.get {a b : Heap} (k : KeepT a b) (T : Tab a) {p : Addr} {o : Obj} (e : a.get? p = some o) (hs : Solid o) : b.get? p = some o := KeepX.get k T e hs fun h => h
theorem KeepT.to {X : Addr → Prop} {a b : Heap} (k : KeepT a b) : KeepX X a b := k.weaken fun _ h => h.elim
/-- all but one place, which is no code and no table -/
theorem KeepX.ext {X : Addr → Prop} {h h' : Heap} {p : Addr} (k : Heap.ExtBut p h h') (hX : X p) (hp : ∀ c P, (c, P) ∈ tabL → p ≠ c ∧ p ≠ P) : KeepX X h h' where
  kp := fun b o e _ hx => k b o (fun q => hx (q ▸ hX)) e
  gr := fun c P hm ps a b => ⟨#[], by rw [Array.append_empty]; exact a.extBut k (Ne.symm (hp c P hm).1) (Ne.symm (hp c P hm).2), by rw [Array.append_empty]; exact b.extBut k (Ne.symm (hp c P hm).1) (Ne.symm (hp c P hm).2)⟩
/-- a place above all that stands at h is no code and no table -/
theorem Tab.above {h : Heap} (T : Tab h) {p : Nat} (hp : h.objs.size ≤ p) (c P : Addr) (hm : (c, P) ∈ tabL) : p ≠ c ∧ p ≠ P := by
  obtain ⟨ps, a, _⟩ := T.at hm
  have l1 : (c : Nat) < h.objs.size := a.lt.1
  have l2 : (P : Nat) < h.objs.size := a.lt.2
  exact ⟨fun e => absurd (Nat.lt_of_lt_of_le l1 hp) (by rw [← e]; exact Nat.lt_irrefl _), fun e => absurd (Nat.lt_of_lt_of_le l2 hp) (by rw [← e]; exact Nat.lt_irrefl _)⟩

theorem Ns.keepsT {h h' : Heap} {a : Addr} {m : Str → Option Value} (n : h.Ns a m) (T : Tab h) {X : Addr → Prop} (k : KeepX X h h') (hx : ¬ X a) : h'.Ns a m :=
  let ⟨o, es, ep, e, hd, r⟩ := n; ⟨o, es, ep, k.get T e (.inr fun vs q => by rw [hd] at q; cases q) hx, hd, r⟩

theorem kk_nt {w : World} {a : Addr} {o : Obj} (e : (KK w).lookup a = some o) : a ∉ tabA := by
  have hm : (a, o) ∈ (Mine.hd.heap_39 w.params).filter nt := mem_of_lookupK e
  have h2 := (List.mem_filter.mp hm).2
  intro hx
  simp only [tabA, List.mem_cons, List.mem_nil_iff, or_false] at hx
  rcases hx with rfl | rfl | rfl | rfl <;> exact absurd h2 Bool.false_ne_true

/-- what stands in every heap of the law -/
structure Bs (w : World) (h : Heap) : Prop where
  K : (KK w).In h
  lim : h.NoLimit
  bi : ∃ mb, h.Ns builtinsNs mb ∧ mb "str" = some (.type "str") ∧ mb "len" = some (.builtin "len") ∧ mb "super" = some (.type "super")
  tab : Tab h

theorem Bs.keeps {w : World} {h h' : Heap} (B : Bs w h) (k : Keep h h') : Bs w h' :=
  ⟨B.K.keeps k, B.lim.keeps k, (let ⟨mb, a, b⟩ := B.bi; ⟨mb, a.keeps k, b⟩), B.tab.keeps k⟩
theorem Bs.keepsX {w : World} {h h' : Heap} (B : Bs w h) {X : Addr → Prop} (k : KeepX X h h') (hK : ∀ a o, (KK w).lookup a = some o → ¬ X a) (hs : ¬ X cStatics) (hb : ¬ X builtinsNs) : Bs w h' :=
  ⟨fun a o e => k.kp a o (B.K a o e) (kk_nt e) (hK a o e), (let ⟨mc, a, b⟩ := B.lim; ⟨mc, Ns.keepsT a B.tab k hs, b⟩), (let ⟨mb, a, b⟩ := B.bi; ⟨mb, Ns.keepsT a B.tab k hb, b⟩), k.tab B.tab⟩
theorem Bs.keepsT {w : World} {h h' : Heap} (B : Bs w h) (k : KeepT h h') : Bs w h' := B.keepsX k (fun _ _ _ h => h) (fun h => h) fun h => h

theorem ne_of_get {h : Heap} {b : Addr} {o : Obj} {n : Nat} (e : h.get? b = some o) (hn : h.objs.size ≤ n) : b ≠ n := Nat.ne_of_lt (Nat.lt_of_lt_of_le (Heap.lt_size e) hn)

structure Grown (s s' : Shared) : Prop where
  hp : KeepT s.heap s'.heap
  os : s'.os = s.os
  dr : s'.drawn = s.drawn
  gz : s.gens.size ≤ s'.gens.size
  go : ∀ k, k < s.gens.size → s'.gens[k]? = s.gens[k]?
  gb : ∀ k, s.gens.size ≤ k → ∀ x, s'.gens[k]? = some x → x.bare = true

theorem Grown.refl (s : Shared) : Grown s s :=
  ⟨.refl _ _, rfl, rfl, Nat.le_refl _, fun _ _ => rfl, fun k hk x hx => (by rw [Array.getElem?_eq_none hk] at hx; cases hx)⟩
theorem Grown.trans {a b c : Shared} (x : Grown a b) (y : Grown b c) : Grown a c where
  hp := x.hp.trans y.hp
  os := y.os.trans x.os
  dr := y.dr.trans x.dr
  gz := Nat.le_trans x.gz y.gz
  go := fun k hk => (y.go k (Nat.lt_of_lt_of_le hk x.gz)).trans (x.go k hk)
  gb := fun k hk v hv => by
    rcases Nat.lt_or_ge k b.gens.size with h | h
    · rw [y.go k h] at hv; exact x.gb k hk v hv
    · exact y.gb k h v hv
/-- only the heap and the tokens turn -/
theorem Grown.of_heap {s : Shared} {h' : Heap} {t : Nat} (k : Keep s.heap h') (_ht : s.toks ≤ t) : Grown s { s with heap := h', toks := t } :=
  ⟨KeepT.of_keep k, rfl, rfl, Nat.le_refl _, fun _ _ => rfl, fun i hi x hx => (by rw [Array.getElem?_eq_none hi] at hx; cases hx)⟩
theorem Grown.of_heapT {s : Shared} {h' : Heap} {t : Nat} (k : KeepT s.heap h') : Grown s { s with heap := h', toks := t } :=
  ⟨k, rfl, rfl, Nat.le_refl _, fun _ _ => rfl, fun i hi x hx => (by rw [Array.getElem?_eq_none hi] at hx; cases hx)⟩

/-- the code ends by giving a value back -/
def Does (w : World) (A : Around) (c : Code) (s : Shared) (P : Value → Shared → Prop) : Prop :=
  codeAny (MM w) A c (fun r s' => ∃ v, r = .ok (.ret v) ∧ P v s') s

theorem Does.mono {w A c s} {P P' : Value → Shared → Prop} (h : Does w A c s P) (hp : ∀ v s', P v s' → P' v s') : Does w A c s P' :=
  codeAny_mono h fun _ _ ⟨v, e, p⟩ => ⟨v, e, hp _ _ p⟩
theorem wp_runValue_of {w : World} {A : Around} {c : Code} {s : Shared} {P : Value → Shared → Prop} {E : Value → Shared → Prop} (h : Does w A c s P) : wpAny (MM w) A (runValue c) P E s :=
  wpAny_runValue (codeAny_mono h fun _ _ ⟨_, e, p⟩ => by rw [e]; exact p)
theorem wp_call_of {w : World} {A : Around} {f : Value} {pos : List Value} {kw : List (Str × Value)} {s : Shared} {P : Value → Shared → Prop} {E : Value → Shared → Prop} (h : Does w A (.call f ⟨pos, kw⟩) s P) :
    wpAny (MM w) A (call f pos kw) P E s := wp_runValue_of h
/-- a codeAny with a common end, from Does -/
theorem codeAny_of_does {w A c s} {P : Value → Shared → Prop} {R : Result → Shared → Prop} (h : Does w A c s P) (hr : ∀ v s', P v s' → R (.ok (.ret v)) s') : codeAny (MM w) A c R s :=
  codeAny_mono h fun _ _ ⟨_, e, p⟩ => by rw [e]; exact hr _ _ p
/-- a builtin's tree that returns -/
abbrev Rets (w : World) (A : Around) (t : Sem Fin) (s : Shared) (P : Value → Shared → Prop) : Prop :=
  wpAny (MM w) A t (fun fin s' => ∃ v, fin = .done (.ret v) ∧ P v s') (fun _ _ => False) s
/-- a builtin called: its check, its tree -/
theorem does_builtin {w A s} {id : String} {b : Builtin} {args : Args} {P : Value → Shared → Prop} (hp : plainId id = true) (hb : entryFor table id = some b)
    (hc : ∀ (Q : Unit → Shared → Prop) (E : Value → Shared → Prop), Q () s → wpAny (MM w) A.in1 (checkBuiltinCall id args) Q E s)
    (h : Rets w A.in1 (b args) s P) : Does w A (.call (.builtin id) args) s P :=
  codeAny_call_builtin hp hb (hc _ _ (wpAny_mono h (fun fin s' ⟨v, e, p⟩ => by rw [e]; exact ⟨v, rfl, p⟩) fun _ _ f => f.elim))
/-- the tree run at once -/
theorem does_builtin_at {w A s} {id : String} {b : Builtin} {args : Args} {P : Value → Shared → Prop} (hp : plainId id = true) (hb : entryFor table id = some b)
    (h : Rets w A.in1 (b args) s P) : Does w A (.builtin id args) s P :=
  codeAny_builtin hb (by rw [Around.under_plainId hp args]; exact wpAny_mono h (fun fin s' ⟨v, e, p⟩ => by rw [e]; exact ⟨v, rfl, p⟩) fun _ _ f => f.elim)

section
variable {w : World} {A : Around} {s : Shared} {a : Addr} {name qual : Str} {params : Arguments} {body : List Stmt} {scope : Scope} {cl : List (Str × Addr)} {dV kV doc pm cdv ct oc : Value} {an od : Option Addr} {osl : Array (Option Value)}
  {args : Args} {P : Value → Shared → Prop}
/-- a def of the text's top, called -/
theorem does_def (binds : List (Str × Value)) (hA : Small A 1) (B : Bs w s.heap) (ho : (KK w).lookup a = some ⟨oc, od, .func (fnX name qual params body scope cl dV kV doc pm an cdv ct), osl⟩) (hcd : codeIn (KK w) cdv qual = true)
    (hbind : BindsTo s (fnX name qual params body scope cl dV kV doc pm an cdv ct) args binds)
    (hcell : ∀ x ∈ scope.names, x.2 ≠ .cell) (hloc : (binds.all fun x => decide (scope.names.lookup x.1 = some .local)) = true)
    (hco : scope.isCoroutine = false) (hgen : scope.isGenerator = false) (hk : scope.kind = .function)
    (h : ∀ h₁, Fr s.heap s.heap.objs.size h₁ (fun x => binds.reverse.lookup x) → Bs w h₁ →
      wpAny (MM w) (A.deeper (envX qual scope s.heap.objs.size a cdv cl)) (execs body (envX qual scope s.heap.objs.size a cdv cl)) (fun f s' => P (match f with | .ret v => v | _ => .none) s') (fun _ _ => False)
        { s with heap := h₁, toks := s.toks + binds.length }) : Does w A (.call (.ref a) args) s P :=
  codeAny_call_def (fd := fnX name qual params body scope cl dV kV doc pm an cdv ct) hA.room (B.K _ _ ho) rfl B.lim (codeRec_of B.K hcd) rfl hbind hcell (locs hloc)
    (fun h₀ hns k => wpAny_mono (h h₀ ⟨hns, k, Nat.le_refl _⟩ (B.keeps k)) (fun _ _ p => ⟨_, rfl, p⟩) fun _ _ f => f.elim) hco hgen hk
/-- the same where the body reads its own code (super) -/
theorem does_defAt (binds : List (Str × Value)) (hA : Small A 1) (B : Bs w s.heap) (ho : (KK w).lookup a = some ⟨oc, od, .func (fnX name qual params body scope cl dV kV doc pm an cdv ct), osl⟩) (hcd : codeIn (KK w) cdv qual = true)
    (hbind : BindsTo s (fnX name qual params body scope cl dV kV doc pm an cdv ct) args binds)
    (hcell : ∀ x ∈ scope.names, x.2 ≠ .cell) (hloc : (binds.all fun x => decide (scope.names.lookup x.1 = some .local)) = true)
    (hco : scope.isCoroutine = false) (hgen : scope.isGenerator = false) (hk : scope.kind = .function)
    (h : ∀ h₁, Fr s.heap s.heap.objs.size h₁ (fun x => binds.reverse.lookup x) → Bs w h₁ →
      _root_.PySem.wpAt (MM w) (A.deeper (envX qual scope s.heap.objs.size a cdv cl)) (.func body (envX qual scope s.heap.objs.size a cdv cl)) (execs body (envX qual scope s.heap.objs.size a cdv cl)) (fun f s' => P (match f with | .ret v => v | _ => .none) s') (fun _ _ => False)
        { s with heap := h₁, toks := s.toks + binds.length }) : Does w A (.call (.ref a) args) s P :=
  ks_codeAny_call_defAt (fd := fnX name qual params body scope cl dV kV doc pm an cdv ct) hA.room (B.K _ _ ho) rfl B.lim (codeRec_of B.K hcd) rfl hbind hcell (locs hloc)
    (fun h₀ hns k => _root_.PySem.wpAt_mono (h h₀ ⟨hns, k, Nat.le_refl _⟩ (B.keeps k)) (fun _ _ p => ⟨_, rfl, p⟩) fun _ _ f => f.elim) hco hgen hk
end

theorem Fr.grown {s : Shared} {h₁ : Heap} {m : Str → Option Value} {t : Nat} (F : Fr s.heap s.heap.objs.size h₁ m) (ht : s.toks ≤ t) : Grown s { s with heap := h₁, toks := t } :=
  Grown.of_heap F.keep ht

/-- a look by the kernel's own run over the written part -/
theorem look {α : Type} {w : World} {h : Heap} {t : Sem α} {r : α} (B : Bs w h) (e : peek (KK w) ⟨prg, w.params⟩ t = some r) : Looks (MM w) h t r := Looks.of_peek B.K e
end Mine

end
section
open PySem PySem.W PyProof.Rows PySem.Calls
set_option maxRecDepth 100000
namespace Mine

/-- a class whose instances store plainly in their own dict -/
structure Stores (w : World) (C : Addr) (name : Str) : Prop where
  cls : ∃ cd, clsIn (KK w) C = some cd ∧ cd.hasDict = true ∧ cd.mro.isEmpty = false ∧ cd.mro.contains (.type "object") = true ∧ ∀ self, refuseLoop self "__setattr__" cd.mro = pure ()
  set : findIn (KK w) (.ref C) "__setattr__" = some (some (.builtin "object.__setattr__"))
  tak : takerIn (KK w) C name = some none

theorem set_own {w A s} {x C dx : Addr} {ox : Obj} {es : List DictEntry} {n : Nat} {name : Str} {v : Value} {Q : Unit → Shared → Prop} {E : Value → Shared → Prop}
    (B : Bs w s.heap) (S : Stores w C name) (hx : s.heap.get? x = some ox) (hc : ox.cls = .ref C) (hn : notCls ox = true) (hd : ox.dict = some dx) (hdx : s.heap.get? dx = some (dictOf es n))
    (hl : (getL name es).isSome = true) (hz : (putL name (PyData.keyHash w.params name) (.str name (s.toks + 1)) v es).length ≤ 1000)
    (h : ∀ h', h'.get? dx = some (dictOf (putL name (PyData.keyHash w.params name) (.str name (s.toks + 1)) v es) (putN name es n)) → Heap.SameBut dx s.heap h' → Q () { s with heap := h', toks := s.toks + 2 }) :
    wpAny (MM w) A (setAttr (.ref x) name v) Q E s := by
  obtain ⟨hh, g, d, tk, os⟩ := s
  have X := B.K
  obtain ⟨cd, hcd, hhas, hne, hob, hpass⟩ := S.cls
  have I : InstAt hh x ox C (some (dictOf es n)) := ⟨hx, hc, hn, by rw [hd]; exact hdx⟩
  refine set_plain X I S.set ?_
  have SF := PySem.F.store_object
  have sub : Looks (MM w) hh (isInstance (.ref x) (.type "object")) true := I.type.andThen (looks_mroIn X (by unfold mroIn; rw [hcd, Option.bind_some, if_neg (by rw [hne]; decide), hob]))
  refine codeAny_call_builtin SF.slot.plain SF.entry (@check_slot (MM w) _ _ ⟨hh, g, d, tk + 1, os⟩ "object.__setattr__" "object" "__setattr__" (.ref x) [.str name tk, v] [] _ SF.kind SF.split sub (SF.args (.ref x) (.str name tk) v) ?_)
  obtain ⟨attr, ha, hr⟩ := Option.bind_eq_some_iff.mp S.tak
  have hm : Looks (MM w) hh (mroOf (.ref C)) cd.mro := (looks_clsIn X hcd).andThen .now
  have L3 : Looks (MM w) hh (Builtin.ObjectAttr.storeTaker? attr) none := by
    cases attr with
    | none => exact .now
    | some a =>
      obtain ⟨b, hb, hr'⟩ := Option.map_eq_some_iff.mp hr
      refine (looks_takesIn X hb).andThen ?_
      cases b with
      | true => cases hr'
      | false => exact .now
  rw [osa_eq, refuse_eq]
  refine wpAny_bind (wpAny_bind (I.type.at (wpAny_bind (hm.at ?_))))
  rw [hpass]
  refine wpAny_pure (wpAny_bind (I.type.at (wpAny_bind ((looks_findIn X ha).at (wpAny_bind (L3.at ?_))))))
  -- the store itself
  obtain ⟨oc, odi, oda, osl⟩ := ox
  dsimp only at hc hd
  subst hc hd
  refine wpAny_bind (wpAny_pure (wpAny_bind (wpAny_bind (wpAny_loadPart hx (wpAny_bind ((looks_clsIn X hcd).at ?_))))))
  rw [hhas]
  refine wpAny_pure (a := some dx) (wpAny_bind (wpAny_pure (wpAny_bind ?_)))
  unfold nsSet
  refine wpAny_bind (wpAny_bind (wpAny_askSetting (wpAny_pure (wpAny_bind (wpAny_mkText (wpAny_bind (wpAny_loadPart hdx ?_)))))))
  dsimp only [dictOf]
  have c : (!es.toArray.any (·.key.isStr name) && es.toArray.any (·.refKey)) = false := by
    simp only [List.any_toArray]
    unfold getL at hl
    split at hl
    · rename_i en he
      rw [List.any_eq_true.mpr ⟨en, List.mem_of_find?_eq_some he, List.find?_some he⟩]; rfl
    · split at hl
      · cases hl
      · rename_i z; rw [Bool.not_eq_true] at z; rw [z, Bool.and_false]
  rw [aRefKeyMayBeTheName_at, c]
  refine wpAny_updatePart hdx ?_
  have e1 : Obj.putName name (PyData.keyHash w.params name) (.str name (tk + 1)) v (dictOf es n) = dictOf (putL name (PyData.keyHash w.params name) (.str name (tk + 1)) v es) (putN name es n) := putName_dict _ _ _ _ _ _
  have D' : (hh.update dx (Obj.putName name (PyData.keyHash w.params name) (.str name (tk + 1)) v)).get? dx = some (dictOf (putL name (PyData.keyHash w.params name) (.str name (tk + 1)) v es) (putN name es n)) := by
    have := Heap.get?_update_self (Obj.putName name (PyData.keyHash w.params name) (.str name (tk + 1)) v) hdx (by rw [e1]; rfl)
    rw [e1] at this; exact this
  refine wpAny_bind (wpAny_lookBehind D' (pastItsLine_dict (by rw [List.size_toArray, sizeLine_eq]; exact Nat.le_trans hz (by decide))) ?_)
  exact wpAny_pure (h _ D' (Heap.SameBut.update ..))
end Mine

end
section
open PySem PySem.W PyProof.Rows PySem.Calls
set_option maxRecDepth 100000
namespace Mine
abbrev superObj (D : Addr) (x : Value) (C : Addr) : Obj := { cls := .type "super", dict := none, data := .fields #[.ref D, x, .ref C], slots := #[] }

section
variable {w : World} {A : Around} {E : Value → Shared → Prop} {h : Heap} {g : Array GenState} {d : Drawn} {t : Nat} {os : OsState}

/-- super.__getattribute__ upon a super object: a found thing without __get__ -/
theorem super_plain {so D C : Addr} {x : Value} {l₀ l : List Value} {K : Frag} {name : Str} {tk : Tok} {a T : Value} {Q : Fin → Shared → Prop}
    (hso : h.get? so = some (superObj D x C)) (hno : Looks (MM w) h (opaqueClassAbove (.ref C)) none)
    (hC : Looks (MM w) h (mroOf (.ref C)) l₀) (hl : (l₀.dropWhile (· != .ref D)).drop 1 = l) (X : K.In h)
    (hf : alongIn K name l = some (some a)) (hn : (name == ("__class__" : Str)) = false) (hT : typeOf a = pure T) (hG : typeLookup T (Str.ofString "__get__") = pure none) (hh : handedIn a = true)
    (hq : Q (.done (.ret a)) ⟨h, g, d, t, os⟩) :
    wpAny (MM w) A (Builtin.«super.__getattribute__» ⟨[.ref so, .str name tk], []⟩) Q E ⟨h, g, d, t, os⟩ := by
  have hdt : (superObj D x C).data = .fields #[.ref D, x, .ref C] := rfl
  have f0 : (#[.ref D, x, .ref C] : Array Value)[0]? = some (.ref D) := rfl
  have f1 : (#[.ref D, x, .ref C] : Array Value)[1]? = some x := rfl
  have f2 : (#[.ref D, x, .ref C] : Array Value)[2]? = some (.ref C) := rfl
  unfold Builtin.«super.__getattribute__»
  repeat (first
    | (with_reducible refine wpAny_field hso hdt f0 ?_) | (with_reducible refine wpAny_field hso hdt f1 ?_) | (with_reducible refine wpAny_field hso hdt f2 ?_)
    | (with_reducible refine ks_wpAny_notOpaque hno ?_)
    | (with_reducible refine Looks.at hC ?_; rw [hl])
    | (refine ks_forIn_along X (fun _ _ => rfl) rfl ?_ hf)
    | (with_reducible refine handed_on hh ?_)
    | (simp only [hn, Bool.or_false, Bool.false_eq_true, if_false])
    | wp_step
    | dsimp only)
  all_goals exact hq

/-- the same: a found thing with __get__, bound by a call -/
theorem super_bound {so D C : Addr} {x : Value} {l₀ l : List Value} {K : Frag} {name : Str} {tk : Tok} {a T gt : Value} {Q : Fin → Shared → Prop}
    (hso : h.get? so = some (superObj D x C)) (hno : Looks (MM w) h (opaqueClassAbove (.ref C)) none)
    (hC : Looks (MM w) h (mroOf (.ref C)) l₀) (hl : (l₀.dropWhile (· != .ref D)).drop 1 = l) (X : K.In h)
    (hf : alongIn K name l = some (some a)) (hn : (name == ("__class__" : Str)) = false) (hT : typeOf a = pure T) (hG : typeLookup T (Str.ofString "__get__") = pure (some gt)) (hx : (x == Value.ref C) = false)
    (hq : Does w A (.call gt ⟨[a, x, .ref C], []⟩) ⟨h, g, d, t, os⟩ (fun v s' => Q (.done (.ret v)) s')) :
    wpAny (MM w) A (Builtin.«super.__getattribute__» ⟨[.ref so, .str name tk], []⟩) Q E ⟨h, g, d, t, os⟩ := by
  have hdt : (superObj D x C).data = .fields #[.ref D, x, .ref C] := rfl
  have f0 : (#[.ref D, x, .ref C] : Array Value)[0]? = some (.ref D) := rfl
  have f1 : (#[.ref D, x, .ref C] : Array Value)[1]? = some x := rfl
  have f2 : (#[.ref D, x, .ref C] : Array Value)[2]? = some (.ref C) := rfl
  unfold Builtin.«super.__getattribute__»
  repeat (first
    | (with_reducible refine wpAny_field hso hdt f0 ?_) | (with_reducible refine wpAny_field hso hdt f1 ?_) | (with_reducible refine wpAny_field hso hdt f2 ?_)
    | (with_reducible refine ks_wpAny_notOpaque hno ?_)
    | (with_reducible refine Looks.at hC ?_; rw [hl])
    | (refine ks_forIn_along X (fun _ _ => rfl) rfl ?_ hf)
    | (simp only [hn, hx, Bool.or_false, Bool.false_eq_true, if_false])
    | wp_step
    | dsimp only)
  exact codeAny_of_does hq fun v s' hv => wpAny_bind (wpAny_pure (wpAny_pure (wpAny_pure hv)))

/-- getAttr upon a super object, by its own __getattribute__ -/
theorem getAttr_super {so D C : Addr} {x : Value} {name : Str} {P : Value → Shared → Prop} {b : Bool} (hso : h.get? so = some (superObj D x C))
    (hq : wpAny (MM w) A.in1 (Builtin.«super.__getattribute__» ⟨[.ref so, .str name t], []⟩) (fun fin s' => ∃ v, fin = .done (.ret v) ∧ (handedIn v = true ∧ P v s')) (fun _ _ => False) ⟨h, g, d, t + 1, os⟩) :
    wpAny (MM w) A (getAttr (.ref so) name b) P E ⟨h, g, d, t, os⟩ := by
  have hlk := PySem.F.ks_slot_super_ga.lookup
  have hT : ∀ t', (⟨h, g, d, t', os⟩ : Shared).TypeIs (.ref so) "super" := fun _ => ⟨_, hso, rfl⟩
  unfold getAttr getAttrBy
  refine wpAny_bind (wpAny_mkText (wpAny_holding (wpAny_bind (wpAny_typeOf (hT _) (wpAny_bind (wpAny_of_eq hlk ?_))))))
  show wpAny _ _ (getAttrByItsOwn (.ref so) (.str name t) (.type "super") (.builtin "super.__getattribute__") true b) _ _ _
  unfold getAttrByItsOwn hookBefore callGetattribute boundAndCalled
  refine wpAny_bind (wpAny_of_eq (show (if onTheHeap (.type "super") then typeLookup (.type "super") "__getattr__" else pure none) = pure none from rfl) ?_)
  refine wpAny_bind (wpAny_attempt (wpAny_holding ?_))
  have hb : (b && onTheHeap (Value.builtin "super.__getattribute__")) = false := by cases b <;> rfl
  rw [hb, if_neg (by decide)]
  show wpAny _ _ (bindSpecial (.builtin "super.__getattribute__") (.ref so) >>= _) _ _ _
  refine wpAny_bind (wpAny_of_eq (PySem.F.ks_slot_super_ga.bind _) ?_)
  refine wpAny_mono (Q := fun v s' => handedIn v = true ∧ P v s') (E := fun _ _ => False)
    (wpAny_call_entry PySem.F.ks_slot_super_ga (hT _) PySem.F.ks_entry_super_ga (wpAny_mono hq (fun _ _ z => z) fun _ _ z => z.elim) (PySem.F.ks_gaArgs_super _ _)) (fun v s' hv => ?_) fun _ _ z => z.elim
  exact handed_on hv.1 hv.2
/-- getMethod upon a super object -/
theorem getMethod_super {so D C : Addr} {x : Value} {name : Str} {pl : Sem Bool} {P : Value × List Value → Shared → Prop} (hso : h.get? so = some (superObj D x C))
    (hq : wpAny (MM w) A.in1 (Builtin.«super.__getattribute__» ⟨[.ref so, .str name t], []⟩) (fun fin s' => ∃ v, fin = .done (.ret v) ∧ (handedIn v = true ∧ P (v, []) s')) (fun _ _ => False) ⟨h, g, d, t + 1, os⟩) :
    wpAny (MM w) A (getMethod (.ref so) name pl) P E ⟨h, g, d, t, os⟩ := by
  have hlk := PySem.F.ks_slot_super_ga.lookup
  have hcan := PySem.F.ks_canon_super_ga
  have hT : ∀ t', (⟨h, g, d, t', os⟩ : Shared).TypeIs (.ref so) "super" := fun _ => ⟨_, hso, rfl⟩
  unfold getMethod
  refine wpAny_bind (wpAny_specialOf (hT _) hlk ?_)
  show wpAny _ _ (if (Manifest.canonical "super.__getattribute__" != "object.__getattribute__") = true then _ else _) _ _ _
  rw [if_pos hcan]
  exact wpAny_bind (getAttr_super hso (wpAny_mono hq (fun _ _ ⟨v, e, a, b⟩ => ⟨v, e, a, wpAny_pure b⟩) fun _ _ z => z))

/-- super(D, C) where the second is itself a class -/
theorem call_super_cls {D C : Addr} {oD oC : Obj} {cdD cdC : ClassData} {Q : Value → Shared → Prop}
    (hD : h.get? D = some oD) (hDt : oD.data = .cls cdD) (hC : h.get? C = some oC) (hCt : oC.data = .cls cdC)
    (hsub : Looks (MM w) h (isSubtype (.ref C) (.ref D)) true)
    (hq : ∀ h', h'.get? h.objs.size = some (superObj D (.ref C) C) → Keep h h' → Q (.ref h.objs.size) ⟨h', g, d, t, os⟩) :
    wpAny (MM w) A (call (.type "super") [.ref D, .ref C]) Q E ⟨h, g, d, t, os⟩ := by
  refine ks_callType_codesW (Q₁ := fun obj s₁ => obj = .ref h.objs.size ∧ s₁ = ⟨h.push { cls := .type "super", data := .fields #[.none, .none, .none] }, g, d, t, os⟩) PySem.F.ks_called_super (ks_wpAny_checkTypeCall_super hD hDt) PySem.F.ks_entry_super_init
    (ks_code_super_new _ _ ⟨rfl, rfl⟩) fun obj s₁ h₁ => ?_
  obtain ⟨rfl, rfl⟩ := h₁
  have up : Keep h (h.push { cls := .type "super", data := .fields #[.none, .none, .none] }) := fun y o e => Heap.get?_push_of_some _ e
  have hso : (h.push { cls := .type "super", data := .fields #[.none, .none, .none] }).get? h.objs.size = some { cls := .type "super", dict := none, data := .fields #[.none, .none, .none], slots := #[] } := Heap.get?_push_at rfl rfl
  have hD' := up _ _ hD
  have hC' := up _ _ hC
  have hsub' := hsub.keeps up
  refine ⟨⟨_, hso, rfl⟩, PySem.F.ks_initArgs_super _ _ _, ?_⟩
  unfold Builtin.«super.__init__» noKeywords
  have fin : ∀ {Q'} , (∀ h', h'.get? h.objs.size = some (superObj D (.ref C) C) → (∀ y o, y ≠ h.objs.size → (h.push { cls := .type "super", data := .fields #[.none, .none, .none] }).get? y = some o → h'.get? y = some o) → Q' (.done (.ret .none)) (⟨h', g, d, t, os⟩ : Shared)) →
      ∀ {A' E'}, wpAny (MM w) A' (do setField (.ref h.objs.size) 0 (.ref D); setField (.ref h.objs.size) 1 (.ref C); setField (.ref h.objs.size) 2 (.ref C); ret .none) Q' E' ⟨h.push { cls := .type "super", data := .fields #[.none, .none, .none] }, g, d, t, os⟩ := by
    intro Q' hq' A' E'
    refine wpAny_bind (wpAny_setField_rec hso (by simp) fun h1 e1 s1 => ?_)
    refine wpAny_bind (wpAny_setField_rec e1 (by simp) fun h2 e2 s2 => ?_)
    refine wpAny_bind (wpAny_setField_rec e2 (by simp) fun h3 e3 s3 => ?_)
    exact wpAny_pure (hq' h3 (by simpa using e3) (fun y o hy e => (s3.2 y hy).trans ((s2.2 y hy).trans ((s1.2 y hy).trans e))))
  repeat (first | (with_reducible refine ks_wpAny_isType_cls hD' hDt ?_) | (with_reducible refine ks_wpAny_isType_cls hC' hCt ?_) | (with_reducible refine Looks.at hsub' ?_) | (with_reducible refine fin ?_) | wp_step)
  all_goals first
    | (intro h' e k; exact ⟨rfl, hq h' e (fun y o ey => k y o (Nat.ne_of_lt (Heap.lt_size ey)) (up y o ey))⟩)
    | (refine fin ?_; intro h' e k; exact ⟨rfl, hq h' e (fun y o ey => k y o (Nat.ne_of_lt (Heap.lt_size ey)) (up y o ey))⟩)
end
end Mine

end
section
open PySem PySem.W PyProof.Rows PySem.Calls
set_option maxRecDepth 100000
namespace Mine

abbrev termObj (C d : Addr) (t : Str) (tk : Tok) : Obj := { cls := .ref C, dict := some d, data := .prim (.str t tk) }
/-- an object of a str subclass of the text's, its text and its token_type -/
def Term (h : Heap) (v : Value) (C : Addr) (t k : Str) : Prop :=
  ∃ a d tk es n tk', v = .ref a ∧ h.get? a = some (termObj C d t tk) ∧ h.get? d = some (dictOf es n) ∧ getL "token_type" es = some (some (.str k tk'))
theorem Term.keeps {h h' : Heap} {v C t k} (x : Term h v C t k) (q : Keep h h') : Term h' v C t k :=
  let ⟨a, d, tk, es, n, tk', e, e1, e2, e3⟩ := x; ⟨a, d, tk, es, n, tk', e, q _ _ e1, q _ _ e2, e3⟩

theorem Term.keepsT {h h' : Heap} {v C t k} (x : Term h v C t k) (T : Tab h) (q : KeepT h h') : Term h' v C t k :=
  let ⟨a, d, tk, es, n, tk', e, e1, e2, e3⟩ := x; ⟨a, d, tk, es, n, tk', e, KeepT.get q T e1 (.inl fun z => by cases z), KeepT.get q T e2 (.inl fun z => by cases z), e3⟩

/-- the same, made at or above lo -/
def TermN (lo : Nat) (h : Heap) (v : Value) (C : Addr) (t k : Str) : Prop :=
  ∃ (a d : Nat), ∃ tk es n tk', v = .ref a ∧ h.get? a = some (termObj C d t tk) ∧ h.get? d = some (dictOf es n) ∧ getL "token_type" es = some (some (.str k tk')) ∧ lo ≤ a ∧ lo ≤ d
theorem TermN.term {lo h v C t k} (x : TermN lo h v C t k) : Term h v C t k :=
  let ⟨a, d, tk, es, n, tk', e, e1, e2, e3, _⟩ := x; ⟨a, d, tk, es, n, tk', e, e1, e2, e3⟩
theorem TermN.keepsX {lo : Nat} {h h' : Heap} {v C t k} {X : Addr → Prop} (x : TermN lo h v C t k) (T : Tab h) (q : KeepX X h h') (hX : ∀ b, X b → (b : Nat) < lo) : TermN lo h' v C t k :=
  let ⟨a, d, tk, es, n, tk', e, e1, e2, e3, l1, l2⟩ := x
  ⟨a, d, tk, es, n, tk', e, q.get T e1 (.inl fun z => by cases z) (fun m => absurd (hX _ m) (Nat.not_lt.mpr l1)), q.get T e2 (.inl fun z => by cases z) (fun m => absurd (hX _ m) (Nat.not_lt.mpr l2)), e3, l1, l2⟩

/-- the facts of the two classes of terminals -/
structure TermC (w : World) (C : Addr) : Prop where
  cls : ∃ oc od cd sl, (KK w).lookup C = some ⟨oc, od, .cls cd, sl⟩ ∧ cd.hasDel = false ∧ cd.hasDict = true ∧ cd.mro = [.ref C, .ref 358, .type "str", .type "object"] ∧ (cd.mro.dropWhile (· != .ref 358)).drop 1 = [.type "str", .type "object"]
  sub : mroIn (KK w) C (.ref 358) = some true
  opq : peek (KK w) ⟨prg, w.params⟩ (opaqueClassAbove (.ref C)) = some none
  tt : Stores w C "token_type"
  df : Stores w C "defects"
  snew : ∀ t tk, peek (KK w) ⟨prg, w.params⟩ (checkBuiltinCall "str.__new__" ⟨[.ref C, .str t tk], []⟩) = some ()
  call : specialIn (KK w) (.ref C) "__call__" = some (some (.builtin "type.__call__"))
  inst : instIn (KK w) (.ref C) (.type "type") = some true
  made : peek (KK w) ⟨prg, w.params⟩ (Bind.madeBy (.ref C)) = some none
  rd : readsIn (KK w) C (.type "type") = true
  nw : findCls (KK w) (.ref C) (.type "type") "__new__" = some (.get (.builtin "staticmethod.__get__") (.ref 359) .none (.ref C))
  self : mroIn (KK w) C (.ref C) = some true
  init : findIn (KK w) (.ref C) "__init__" = some (some (.builtin "object.__init__"))
  obj : mroIn (KK w) C (.type "object") = some true
  str : mroIn (KK w) C (.type "str") = some true

theorem termC_388 (w : World) : TermC w 388 where
  cls := ⟨_, _, _, _, rfl, rfl, rfl, rfl, by kernel_rfl⟩
  sub := by kernel_rfl
  opq := by rw [PySem.W.Fast.te10962862871223965100]; kernel_rfl
  tt := ⟨⟨_, rfl, rfl, rfl, by kernel_rfl, fun _ => by kernel_rfl⟩, by kernel_rfl, by kernel_rfl⟩
  df := ⟨⟨_, rfl, rfl, rfl, by kernel_rfl, fun _ => by kernel_rfl⟩, by kernel_rfl, by kernel_rfl⟩
  snew := fun t tk => by rw [PySem.W.Fast.te10254737850608025244]; kernel_rfl
  call := by kernel_rfl
  inst := by kernel_rfl
  made := by kernel_rfl
  rd := by kernel_rfl
  nw := by kernel_rfl
  self := by kernel_rfl
  init := by kernel_rfl
  obj := by kernel_rfl
  str := by kernel_rfl
theorem termC_415 (w : World) : TermC w 415 where
  cls := ⟨_, _, _, _, rfl, rfl, rfl, rfl, by kernel_rfl⟩
  sub := by kernel_rfl
  opq := by rw [PySem.W.Fast.te10962862871223965100]; kernel_rfl
  tt := ⟨⟨_, rfl, rfl, rfl, by kernel_rfl, fun _ => by kernel_rfl⟩, by kernel_rfl, by kernel_rfl⟩
  df := ⟨⟨_, rfl, rfl, rfl, by kernel_rfl, fun _ => by kernel_rfl⟩, by kernel_rfl, by kernel_rfl⟩
  snew := fun t tk => by rw [PySem.W.Fast.te10254737850608025244]; kernel_rfl
  call := by kernel_rfl
  inst := by kernel_rfl
  made := by kernel_rfl
  rd := by kernel_rfl
  nw := by kernel_rfl
  self := by kernel_rfl
  init := by kernel_rfl
  obj := by kernel_rfl
  str := by kernel_rfl
end Mine

end
section
open PySem PySem.W PyProof.Rows PySem.Calls
set_option maxRecDepth 100000
namespace Mine

theorem plain_strNew : plainId "str.__new__" = true := by decide +kernel
theorem entry_strNew : entryFor table "str.__new__" = some Builtin.«str.__new__» := entryFor_of_tree (by kernel_rfl)
theorem bindOpt_strNew (v : Value) : Builtin.Str.bindOptional "str.__new__" "str" 0 ["object", "encoding", "errors"] [v] [] = pure [some v, none, none] := by kernel_rfl
theorem isExact_str (t : Str) (tk : Tok) : Builtin.Str.isExactStr (.str t tk) = true := rfl

theorem str_new {w A s} {C : Addr} {t : Str} {tk : Tok} {P : Value → Shared → Prop} (T : TermC w C) (B : Bs w s.heap) (ht : t.length ≤ sizeLine)
    (hP : P (.ref (s.heap.objs.size + 1)) { s with heap := (s.heap.push { cls := .type "dict", data := .dict #[] }).push (termObj C s.heap.objs.size t s.toks), toks := s.toks + 1 }) :
    Does w A (.call (.builtin "str.__new__") ⟨[.ref C, .str t tk], []⟩) s P := by
  obtain ⟨hh, g, d, tks, os⟩ := s
  refine does_builtin plain_strNew entry_strNew (fun Q E q => (look B (T.snew t tk)).here q) ?_
  obtain ⟨oc, od, cd, sl, ho, hdel, hdict, hmro, -⟩ := T.cls
  have hC := B.K _ _ ho
  have hsub := looks_mroIn (M := MM w) B.K T.str
  have hb := bindOpt_strNew (.str t tk)
  unfold Builtin.«str.__new__»
  dsimp only at hC hsub hP
  have hty : Looks (MM w) hh (isType (.ref C)) true := (Looks.ld hC).andThen .now
  repeat (first
    | (with_reducible refine Looks.at hty ?_) | (with_reducible refine Looks.at hsub ?_)
    | (with_reducible refine wpAny_of_eq hb ?_)
    | lk)
  rw [if_neg (Nat.not_lt.mpr ht)]
  have hC' := Heap.get?_push_of_some (termObj C hh.objs.size t tks) (Heap.get?_push_of_some ({ cls := .type "dict", data := .dict #[] } : Obj) hC)
  refine wpAny_bind (wpAny_fresh (wpAny_pure (wpAny_bind ?_)))
  unfold newObj
  have hp : (Data.prim (.str t tks)).pastItsLine = none := by show (if t.length > sizeLine then some "str:memory" else none) = none; rw [if_neg (Nat.not_lt.mpr ht)]
  dsimp only
  rw [hp]
  unfold newObjAsIs classHasDel
  refine wpAny_bind (wpAny_alloc (wpAny_bind (wpAny_bind (wpAny_load hC' ?_))))
  dsimp only
  rw [hdel]
  refine wpAny_pure (wpAny_pure (wpAny_pure ⟨_, rfl, ?_⟩))
  rw [Heap.size_push]
  exact hP
end Mine

end
section
open PySem PySem.W PyProof.Rows PySem.Calls
set_option maxRecDepth 100000
namespace Mine
section
variable {w : World} {A : Around} {E : Value → Shared → Prop} {s : Shared} {env : Env}
theorem load_bi {x : Str} {v : Value} {Q : Value → Shared → Prop} (B : Bs w s.heap) (hm : nsIn (KK w) 3 x = some none) (hv : ∃ mb, s.heap.Ns builtinsNs mb ∧ mb x = some v) (q : Q v s)
    (hg : env.globals = 3 := by rfl) (hb : env.builtins = builtinsNs := by rfl) : wpAny (MM w) A (loadGlobal env x) Q E s := by
  obtain ⟨mb, n, e⟩ := hv
  unfold loadGlobal
  rw [hg, hb]
  refine wpAny_bind ((looks_nsIn B.K hm).here ?_)
  dsimp only
  refine wpAny_bind (wpAny_nsGet n ?_)
  rw [e]; exact wpAny_pure q
theorem load_gl {x : Str} {v : Value} {Q : Value → Shared → Prop} (B : Bs w s.heap) (hm : nsIn (KK w) 3 x = some (some v)) (q : Q v s)
    (hg : env.globals = 3 := by rfl) : wpAny (MM w) A (loadGlobal env x) Q E s := by
  unfold loadGlobal
  rw [hg]
  exact wpAny_bind ((looks_nsIn B.K hm).here (wpAny_pure q))
/-- a global name of the text's -/
theorem name_gl {x : Str} {pos : Pos} {v : Value} {Q : Value → Shared → Prop} (B : Bs w s.heap) (hm : nsIn (KK w) 3 x = some (some v)) (q : Q v s)
    (hk : env.scope.kind = .function := by rfl) (hx : env.kindOf x = some .globalImplicit := by rfl) (hg : env.globals = 3 := by rfl) (hd : (x == ("__debug__" : Str)) = false := by decide) : wpAny (MM w) A (eval (.Name x pos) env) Q E s :=
  Name_function_global hk hx (load_gl B hm q hg) hd
theorem name_str {pos : Pos} {Q : Value → Shared → Prop} (B : Bs w s.heap) (q : Q (.type "str") s)
    (hk : env.scope.kind = .function := by rfl) (hx : env.kindOf "str" = some .globalImplicit := by rfl) (hg : env.globals = 3 := by rfl) (hb : env.builtins = builtinsNs := by rfl) : wpAny (MM w) A (eval (.Name "str" pos) env) Q E s :=
  Name_function_global hk hx (load_bi B (by kernel_rfl) (let ⟨mb, a, b, _⟩ := B.bi; ⟨mb, a, b⟩) q hg hb)
theorem name_len {pos : Pos} {Q : Value → Shared → Prop} (B : Bs w s.heap) (q : Q (.builtin "len") s)
    (hk : env.scope.kind = .function := by rfl) (hx : env.kindOf "len" = some .globalImplicit := by rfl) (hg : env.globals = 3 := by rfl) (hb : env.builtins = builtinsNs := by rfl) : wpAny (MM w) A (eval (.Name "len" pos) env) Q E s :=
  Name_function_global hk hx (load_bi B (by kernel_rfl) (let ⟨mb, a, _, b, _⟩ := B.bi; ⟨mb, a, b⟩) q hg hb)
/-- a local name -/
theorem name_loc {x : Str} {pos : Pos} {m : Str → Option Value} {v : Value} {Q : Value → Shared → Prop} (hn : s.heap.Ns env.locals m) (hv : m x = some v) (q : Q v s)
    (hk : env.scope.kind = .function := by rfl) (hx : env.kindOf x = some .local := by rfl) (hd : (x == ("__debug__" : Str)) = false := by decide) : wpAny (MM w) A (eval (.Name x pos) env) Q E s :=
  wpAny_Name (wpAny_loadName_local hk hx hn hv q) hd
end
end Mine

end
section
open PySem PySem.W PyProof.Rows PySem.Calls
set_option maxRecDepth 100000
namespace Mine
theorem htop_super : (prg.main.scope.names.lookup ("super" : Str)).isSome = false := by decide +kernel
theorem typ_strNew : typeOf (.builtin "str.__new__") = pure (.type "builtin_function_or_method") := by show builtinType _ = _; rw [builtinType_eq_fast]; kernel_rfl
theorem noget_bf : typeLookup (.type "builtin_function_or_method") (Str.ofString "__get__") = pure none := by rw [typeLookup_type, builtinLookup_eq_fast]; kernel_rfl
theorem getL_hd {a : Str} {h1 h2 : Int} {x y k1 k2 : Value} (q : k1.isStr a = true) : getL a [⟨h1, k1, x⟩, ⟨h2, k2, y⟩] = some (some x) := by
  unfold getL; rw [List.find?_cons, q]

set_option maxHeartbeats 1000000 in
theorem term_newfn {w A s} {C : Addr} {t k : Str} {tk tk' : Tok} {P : Value → Shared → Prop} (T : TermC w C) (hA : Small A 8) (B : Bs w s.heap) (ht : t.length ≤ sizeLine)
    (hP : ∀ v s', Grown s s' → TermN s.heap.objs.size s'.heap v C t k → P v s') : Does w A (.call (.ref 302) ⟨[.ref C, .str t tk, .str k tk'], []⟩) s P := by
  have ho : (KK w).lookup 302 = some _ := rfl
  refine does_defAt [("cls", .ref C), ("value", .str t tk), ("token_type", .str k tk')] (hA.weaken (by omega)) B ho (by kernel_rfl) (BindsTo.of_eq rfl) (by decide) (by rfl) rfl rfl rfl fun h₁ F B₁ => ?_
  obtain ⟨ocl, odl, cd, sl, hoC, hdel, hdict, hmro, hdrop⟩ := T.cls
  refine ks_wpAt_execs_cons (ks_wpAt_Assign_Name (ks_wpAt_MethodCall (ks_wpAt_super_base (f := 302) (cc := 301) rfl rfl (by decide) rfl (B₁.K _ _ ho) rfl rfl rfl (B₁.K _ _ (show (KK w).lookup 301 = some _ from rfl)) rfl rfl (by decide +kernel) htop_super ?_)))
  clear ho
  refine ks_loadName_global rfl rfl (load_bi B₁ (by kernel_rfl) (let ⟨mb, a, _, _, b⟩ := B₁.bi; ⟨mb, a, b⟩) ⟨rfl, ?_⟩)
  refine wpAny_loadName_free rfl rfl rfl ⟨_, B₁.K _ _ (show (KK w).lookup 290 = some _ from rfl), rfl⟩ ?_
  refine wpAny_loadName_local (v := .ref C) rfl rfl F.ns rfl ?_
  have h358 := B₁.K _ _ (show (KK w).lookup 358 = some _ from rfl)
  have hC₁ := B₁.K _ _ hoC
  refine ks_wpAny_isType_cls h358 rfl ⟨rfl, ?_⟩
  refine call_super_cls h358 rfl hC₁ rfl (looks_mroIn B₁.K T.sub) fun h₂ hso k₂ => ?_
  have B₂ := B₁.keeps k₂
  refine getMethod_super hso (super_plain (l := [.type "str", .type "object"]) hso (look B₂ T.opq) ((looks_clsIn B₂.K (by unfold clsIn; rw [hoC])).andThen .now) hdrop B₂.K (a := .builtin "str.__new__") (by kernel_rfl) (by decide) typ_strNew noget_bf rfl ⟨_, rfl, rfl, ?_⟩)
  dsimp only
  have n₂ := F.ns.keeps k₂
  refine callWith_builtin rfl (evalArgs_plain (spliced_cons (name_loc n₂ (v := .ref C) rfl (spliced_cons (name_loc n₂ (v := .str t tk) rfl (spliced_nil ?_))))))
  refine wp_call_of (str_new T B₂ ht ?_)
  have k₃ : Keep h₂ ((h₂.push { cls := .type "dict", data := .dict #[] }).push (termObj C h₂.objs.size t (s.toks + 3 + 1))) := fun b o e => Heap.get?_push_of_some _ (Heap.get?_push_of_some _ e)
  have x₃ : ((h₂.push { cls := .type "dict", data := .dict #[] }).push (termObj C h₂.objs.size t (s.toks + 3 + 1))).get? (h₂.objs.size + 1) = some (termObj C h₂.objs.size t (s.toks + 3 + 1)) := Heap.get?_push_at (by rw [Heap.size_push]) rfl
  have d₃ : ((h₂.push { cls := .type "dict", data := .dict #[] }).push (termObj C h₂.objs.size t (s.toks + 3 + 1))).get? h₂.objs.size = some (dictOf [] 0) := Heap.get?_push_of_some _ (Heap.get?_push_size _ rfl)
  have lL : s.heap.objs.size < h₂.objs.size := n₂.lt
  dsimp only
  generalize ((h₂.push { cls := .type "dict", data := .dict #[] }).push (termObj C h₂.objs.size t (s.toks + 3 + 1))) = h₃ at k₃ x₃ d₃ ⊢
  refine wpAny_storeName_local rfl (n₂.keeps k₃) fun h₄ n₄ e₄ => ?_
  have k₄ : ∀ b o, b ≠ s.heap.objs.size → h₃.get? b = some o → h₄.get? b = some o := fun b o hb e => (e₄.2 b hb).trans e
  have B₄ : Bs w h₄ := B.keeps fun b o e => k₄ b o (ne_of_get e (Nat.le_refl _)) (k₃ _ _ (k₂ _ _ (F.keep _ _ e)))
  have x₄ := k₄ _ _ (show h₂.objs.size + 1 ≠ s.heap.objs.size by omega) x₃
  have d₄ := k₄ _ _ (show h₂.objs.size ≠ s.heap.objs.size by omega) d₃
  refine ks_wpAt_execs_cons (wpAt_of_wpAny (plainObj_wpAny_Assign_Attribute (name_loc n₄ (v := .str k tk') rfl (name_loc n₄ (v := .ref (h₂.objs.size + 1)) rfl ?_))))
  refine set_own B₄ T.tt x₄ rfl rfl rfl d₄ rfl (by show 1 ≤ 1000; decide) fun h₅ d₅ e₅ => ?_
  have k₅ : ∀ b o, b ≠ h₂.objs.size → h₄.get? b = some o → h₅.get? b = some o := fun b o hb e => (e₅.2 b hb).trans e
  dsimp only
  have lL₅ : s.heap.objs.size ≠ h₂.objs.size := by omega
  have n₅ := n₄.sameBut e₅ lL₅
  have x₅ := k₅ _ _ (show h₂.objs.size + 1 ≠ h₂.objs.size by omega) x₄
  have B₅ : Bs w h₅ := B.keeps fun b o e => k₅ b o (ne_of_get e (Nat.le_of_lt lL)) (k₄ b o (ne_of_get e (Nat.le_refl _)) (k₃ _ _ (k₂ _ _ (F.keep _ _ e))))
  refine ks_wpAt_execs_cons (wpAt_of_wpAny (plainObj_wpAny_Assign_Attribute (List_ (spliced_nil (wpAny_newObj_type ?_ (by size_fits))))))
  have k₆ : Keep h₅ (h₅.push { cls := .type "list", data := .seq #[] }) := fun b o e => Heap.get?_push_of_some _ e
  have n₆ := n₅.keeps k₆
  have B₆ := B₅.keeps k₆
  refine name_loc n₆ (v := .ref (h₂.objs.size + 1)) rfl ?_
  refine set_own B₆ T.df (k₆ _ _ x₅) rfl rfl rfl (k₆ _ _ d₅) rfl (by show 2 ≤ 1000; decide) fun h₇ d₇ e₇ => ?_
  have k₇ : ∀ b o, b ≠ h₂.objs.size → (h₅.push { cls := .type "list", data := .seq #[] }).get? b = some o → h₇.get? b = some o := fun b o hb e => (e₇.2 b hb).trans e
  dsimp only
  have n₇ := n₆.sameBut e₇ lL₅
  have x₇ := k₇ _ _ (show h₂.objs.size + 1 ≠ h₂.objs.size by omega) (k₆ _ _ x₅)
  refine ks_wpAt_execs_cons (ks_wpAt_Return_some (wpAt_of_wpAny (name_loc n₇ (v := .ref (h₂.objs.size + 1)) rfl ?_)))
  dsimp only
  refine hP _ _ ⟨KeepT.of_keep (fun b o e => k₇ b o (ne_of_get e (Nat.le_of_lt lL)) (k₆ _ _ (k₅ b o (ne_of_get e (Nat.le_of_lt lL)) (k₄ b o (ne_of_get e (Nat.le_refl _)) (k₃ _ _ (k₂ _ _ (F.keep _ _ e))))))), rfl, rfl, Nat.le_refl _, fun _ _ => rfl, fun i hi x hx => (by rw [Array.getElem?_eq_none hi] at hx; cases hx)⟩ ⟨_, _, _, _, _, tk', rfl, x₇, d₇, getL_hd (by rfl), ?_, ?_⟩
  · exact Nat.le_succ_of_le (Nat.le_of_lt lL)
  · exact Nat.le_of_lt lL
end Mine

end
section
open PySem PySem.W PyProof.Rows PySem.Calls
set_option maxRecDepth 100000
namespace Mine

/-- a class called: up to type.__call__'s own tree -/
theorem does_class {w A s} {C : Addr} {rest : List Value} {kw : List (Str × Value)} {P : Value → Shared → Prop} {oc : Value} {od : Option Addr} {cd : ClassData} {sl : Array (Option Value)} (B : Bs w s.heap)
    (ho : (KK w).lookup C = some ⟨oc, od, .cls cd, sl⟩) (hc : specialIn (KK w) (.ref C) "__call__" = some (some (.builtin "type.__call__"))) (hi : instIn (KK w) (.ref C) (.type "type") = some true)
    (h : Rets w (A.under (.builtin "type.__call__" ⟨.ref C :: rest, kw⟩)) (Builtin.«type.__call__» ⟨.ref C :: rest, kw⟩) s P) : Does w A (.call (.ref C) ⟨rest, kw⟩) s P := by
  have hC := B.K _ _ ho
  have call := looks_specialIn (M := MM w) B.K hc
  have typ := looks_instIn (M := MM w) B.K hi
  refine codeAny_of_tree ?_
  show wpAny _ _ (callAny (.ref C) _) _ _ _
  refine nd_load hC ?_
  show wpAny _ _ (callAny.viaDunder (.ref C) _) _ _ _
  unfold callAny.viaDunder
  refine wpAny_bind (call.here ?_)
  dsimp only
  rw [tc_bind]
  refine wpAny_bind (wpAny_pure (wpAny_bind (wpAny_pure ?_)))
  refine wpAny_pure (a := PySem.Fin.again (.call (.builtin "type.__call__") ⟨.ref C :: rest, kw⟩)) (And.intro rfl ?_)
  refine codeAny_call_builtin_at (Code.quiet_builtin _ (by decide +kernel)) entry_typeCall (check_slot tc_kind tc_split typ (tc_args _ _ _) ?_)
  exact wpAny_mono h (fun fin s' ⟨v, e, p⟩ => by rw [e]; exact ⟨v, rfl, p⟩) fun _ _ f => f.elim

theorem looks_type {M : Model} {h : Heap} {x : Addr} {ox : Obj} {T : Value} (hx : h.get? x = some ox) (hc : ox.cls = T) : Looks M h (typeOf (.ref x)) T := by
  have := (Looks.ld (M := M) (part := some headPart) hx).andThen (f := fun o => pure o.cls) .now
  rw [hc] at this; exact this
theorem tc_weight (C : Addr) (rest : List Value) (kw : List (Str × Value)) : (Code.builtin "type.__call__" ⟨.ref C :: rest, kw⟩).weight = 1 := by kernel_rfl
theorem tc_units (C : Addr) (rest : List Value) (kw : List (Str × Value)) : (Code.builtin "type.__call__" ⟨.ref C :: rest, kw⟩).cUnits = 1 := by kernel_rfl
theorem oi_args3 (a b c : Value) : argsOk "object.__init__" ⟨[a, b, c], []⟩ := by unfold argsOk; kernel_rfl
theorem oi_rest {w A s} {C x : Addr} {b c : Value} {P : Value → Shared → Prop} {ox : Obj} (B : Bs w s.heap) (hx : s.heap.get? x = some ox) (hc : ox.cls = .ref C)
    (hobj : mroIn (KK w) C (.type "object") = some true) (hinit : findIn (KK w) (.ref C) "__init__" = some (some (.builtin "object.__init__"))) (hmade : peek (KK w) ⟨prg, w.params⟩ (Bind.madeBy (.ref C)) = some none)
    (hP : P .none s) : Does w A (.call (.builtin "object.__init__") ⟨[.ref x, b, c], []⟩) s P := by
  obtain ⟨hh, g, d, tk, os⟩ := s
  have t1 : Looks (MM w) hh (typeOf (.ref x)) (.ref C) := looks_type hx hc
  have t2 : Looks (MM w) hh (isInstance (.ref x) (.type "object")) true := t1.andThen (looks_mroIn B.K hobj)
  have t3 := looks_findIn (M := MM w) B.K hinit
  have t4 := look B hmade
  dsimp only at t3 t4
  refine does_builtin oi_plain entry_oi (fun Q E q => @check_slot (MM w) _ _ _ "object.__init__" "object" "__init__" (.ref x) [b, c] [] _ oi_kind oi_split t2 (oi_args3 (.ref x) b c) q) ?_
  unfold Builtin.«object.__init__»
  repeat lk
  exact ⟨_, rfl, hP⟩

set_option maxHeartbeats 1000000 in
theorem new_term {w A s} {C : Addr} {t k : Str} {tk tk' : Tok} {P : Value → Shared → Prop} (T : TermC w C) (hA : Small A 10) (B : Bs w s.heap) (ht : t.length ≤ sizeLine)
    (hP : ∀ v s', Grown s s' → TermN s.heap.objs.size s'.heap v C t k → P v s') : Does w A (.call (.ref C) ⟨[.str t tk, .str k tk'], []⟩) s P := by
  obtain ⟨ocl, odl, cd, sl, hoC, hdel, hdict, hmro, hdrop⟩ := T.cls
  refine does_class B hoC T.call T.inst ?_
  have hA' : Small (A.under (.builtin "type.__call__" ⟨.ref C :: [.str t tk, .str k tk'], []⟩)) 9 := hA.under (by rw [tc_weight]; decide) (by rw [tc_units]; decide)
  generalize A.under (.builtin "type.__call__" ⟨.ref C :: [.str t tk, .str k tk'], []⟩) = A' at hA' ⊢
  have hm : Looks (MM w) s.heap (mroOf (.ref C)) cd.mro := (looks_clsIn B.K (by unfold clsIn; rw [hoC])).andThen .now
  have hmade := look B T.made
  have hne : cd.mro.isEmpty = false := by rw [hmro]; rfl
  obtain ⟨hh, g, d, tks, os⟩ := s
  dsimp only at hm hmade
  have hga : ∀ {Q : Value → Shared → Prop} {E : Value → Shared → Prop} {t'}, Q (.ref 302) ⟨hh, g, d, t' + 1, os⟩ → wpAny (MM w) A' (getAttr (.ref C) "__new__") Q E ⟨hh, g, d, t', os⟩ := fun {Q E t'} q =>
    cls_bind B.K T.rd T.nw (wpAny_call (sm_get B.K (f := .ref 302) (rest := []) (by kernel_rfl) (handed_on rfl q)))
  unfold Builtin.«type.__call__»
  repeat (first | simp only [hne, Bool.false_eq_true, if_false] | with_reducible refine wpAny_call ?_ | (with_reducible refine hga ?_) | lk)
  refine codeAny_mono (term_newfn (P := fun v s' => Grown ⟨hh, g, d, tks + 1, os⟩ s' ∧ TermN hh.objs.size s'.heap v C t k) T (hA'.weaken (by omega)) B ht fun v s' a b => ⟨a, b⟩) fun r s₁ h₁ => ?_
  obtain ⟨v, rfl, G₁, T₁⟩ := h₁
  have hP' := hP v
  have B₁ := B.keepsT G₁.hp
  have G₀ : Grown ⟨hh, g, d, tks, os⟩ s₁ := (Grown.of_heap (s := ⟨hh, g, d, tks, os⟩) (fun _ _ e => e) (Nat.le_succ _)).trans G₁
  obtain ⟨x, dx, tk₁, es, n, tk₂, rfl, e1, e2, e3⟩ := id T₁.term
  have t1 : Looks (MM w) s₁.heap (typeOf (.ref x)) (.ref C) := looks_type e1 rfl
  have t2 : Looks (MM w) s₁.heap (isInstance (.ref x) (.ref C)) true := t1.andThen (looks_mroIn B₁.K T.self)
  have t3 := looks_findIn (M := MM w) B₁.K T.init
  have t4 : Looks (MM w) s₁.heap (bindSpecial (.builtin "object.__init__") (.ref x)) (.builtin "object.__init__", [.ref x]) := Looks.of_pure (oi_bind _)
  obtain ⟨h1, g1, d1, tks1, os1⟩ := s₁
  dsimp only at t1 t2 t3 t4 e1 ⊢
  unfold callSpecial? specialOf
  repeat (first | with_reducible refine wpAny_call ?_ | lk)
  refine codeAny_of_does (oi_rest (P := fun v s' => v = .none ∧ s' = ⟨h1, g1, d1, tks1, os1⟩) B₁ e1 rfl T.obj T.init T.made ⟨rfl, rfl⟩) fun v s' h => ?_
  obtain ⟨rfl, rfl⟩ := h
  repeat lk
  exact ⟨_, rfl, hP' _ G₀ T₁⟩
end Mine

end
section
open PySem PySem.W PyProof.Rows PySem.Calls
set_option maxRecDepth 100000
namespace Mine
abbrev tlObj (C d : Addr) (xs : Array Value) (n : Nat) : Obj := { cls := .ref C, dict := some d, data := .seq xs n }
/-- an object of a list subclass of the text's -/
def TL (h : Heap) (v : Value) (C : Addr) (xs : List Value) : Prop :=
  ∃ a d es n ep, v = .ref a ∧ h.get? a = some (tlObj C d xs.toArray ep) ∧ h.get? d = some (dictOf es n) ∧ getL "token_type" es = some none
theorem TL.keeps {h h' : Heap} {v C xs} (x : TL h v C xs) (q : Keep h h') : TL h' v C xs :=
  let ⟨a, d, es, n, ep, e, e1, e2, e3⟩ := x; ⟨a, d, es, n, ep, e, q _ _ e1, q _ _ e2, e3⟩

theorem TL.keepsT {h h' : Heap} {v C xs} (x : TL h v C xs) (T : Tab h) (q : KeepT h h') : TL h' v C xs :=
  let ⟨a, d, es, n, ep, e, e1, e2, e3⟩ := x; ⟨a, d, es, n, ep, e, KeepT.get q T e1 (.inl fun z => by cases z), KeepT.get q T e2 (.inl fun z => by cases z), e3⟩

/-- the same, made at or above lo -/
def TLN (lo : Nat) (h : Heap) (v : Value) (C : Addr) (xs : List Value) : Prop :=
  ∃ (a d : Nat), ∃ es n ep, v = .ref a ∧ h.get? a = some (tlObj C d xs.toArray ep) ∧ h.get? d = some (dictOf es n) ∧ getL "token_type" es = some none ∧ lo ≤ a ∧ lo ≤ d
theorem TLN.tl {lo h v C xs} (x : TLN lo h v C xs) : TL h v C xs := let ⟨a, d, es, n, ep, e, e1, e2, e3, _⟩ := x; ⟨a, d, es, n, ep, e, e1, e2, e3⟩
theorem TLN.weaken {lo lo' : Nat} {h v C xs} (x : TLN lo' h v C xs) (hl : lo ≤ lo') : TLN lo h v C xs := let ⟨a, d, es, n, ep, e, e1, e2, e3, l1, l2⟩ := x; ⟨a, d, es, n, ep, e, e1, e2, e3, Nat.le_trans hl l1, Nat.le_trans hl l2⟩
theorem TLN.keepsX {lo : Nat} {h h' : Heap} {v C xs} {X : Addr → Prop} (x : TLN lo h v C xs) (T : Tab h) (q : KeepX X h h') (hX : ∀ b, X b → (b : Nat) < lo) : TLN lo h' v C xs :=
  let ⟨a, d, es, n, ep, e, e1, e2, e3, l1, l2⟩ := x
  ⟨a, d, es, n, ep, e, q.get T e1 (.inl fun z => by cases z) (fun m => absurd (hX _ m) (Nat.not_lt.mpr l1)), q.get T e2 (.inl fun z => by cases z) (fun m => absurd (hX _ m) (Nat.not_lt.mpr l2)), e3, l1, l2⟩

structure TLC (w : World) (C : Addr) : Prop where
  cls : ∃ oc od cd sl, (KK w).lookup C = some ⟨oc, od, .cls cd, sl⟩ ∧ cd.hasDel = false ∧ cd.hasDict = true ∧ cd.mro.isEmpty = false ∧ (cd.mro.dropWhile (· != .ref 139)).drop 1 = [.type "list", .type "object"]
  sub : mroIn (KK w) C (.ref 139) = some true
  opq : peek (KK w) ⟨prg, w.params⟩ (opaqueClassAbove (.ref C)) = some none
  df : Stores w C "defects"
  snew : ∀ l, peek (KK w) ⟨prg, w.params⟩ (checkBuiltinCall "list.__new__" ⟨[.ref C, l], []⟩) = some ()
  call : specialIn (KK w) (.ref C) "__call__" = some (some (.builtin "type.__call__"))
  inst : instIn (KK w) (.ref C) (.type "type") = some true
  made : peek (KK w) ⟨prg, w.params⟩ (Bind.madeBy (.ref C)) = some (some "list.__new__")
  self : mroIn (KK w) C (.ref C) = some true
  init : findIn (KK w) (.ref C) "__init__" = some (some (.ref 51))
  list : mroIn (KK w) C (.type "list") = some true
theorem tlC_181 (w : World) : TLC w 181 where
  cls := ⟨_, _, _, _, rfl, rfl, rfl, rfl, by kernel_rfl⟩
  sub := by kernel_rfl
  opq := by rw [PySem.W.Fast.te10962862871223965100]; kernel_rfl
  df := ⟨⟨_, rfl, rfl, rfl, by kernel_rfl, fun _ => by kernel_rfl⟩, by kernel_rfl, by kernel_rfl⟩
  snew := fun l => by rw [PySem.W.Fast.te10254737850608025244]; kernel_rfl
  call := by kernel_rfl
  inst := by kernel_rfl
  made := by kernel_rfl
  self := by kernel_rfl
  init := by kernel_rfl
  list := by kernel_rfl
theorem tlC_217 (w : World) : TLC w 217 where
  cls := ⟨_, _, _, _, rfl, rfl, rfl, rfl, by kernel_rfl⟩
  sub := by kernel_rfl
  opq := by rw [PySem.W.Fast.te10962862871223965100]; kernel_rfl
  df := ⟨⟨_, rfl, rfl, rfl, by kernel_rfl, fun _ => by kernel_rfl⟩, by kernel_rfl, by kernel_rfl⟩
  snew := fun l => by rw [PySem.W.Fast.te10254737850608025244]; kernel_rfl
  call := by kernel_rfl
  inst := by kernel_rfl
  made := by kernel_rfl
  self := by kernel_rfl
  init := by kernel_rfl
  list := by kernel_rfl
theorem tlC_244 (w : World) : TLC w 244 where
  cls := ⟨_, _, _, _, rfl, rfl, rfl, rfl, by kernel_rfl⟩
  sub := by kernel_rfl
  opq := by rw [PySem.W.Fast.te10962862871223965100]; kernel_rfl
  df := ⟨⟨_, rfl, rfl, rfl, by kernel_rfl, fun _ => by kernel_rfl⟩, by kernel_rfl, by kernel_rfl⟩
  snew := fun l => by rw [PySem.W.Fast.te10254737850608025244]; kernel_rfl
  call := by kernel_rfl
  inst := by kernel_rfl
  made := by kernel_rfl
  self := by kernel_rfl
  init := by kernel_rfl
  list := by kernel_rfl
theorem tlC_264 (w : World) : TLC w 264 where
  cls := ⟨_, _, _, _, rfl, rfl, rfl, rfl, by kernel_rfl⟩
  sub := by kernel_rfl
  opq := by rw [PySem.W.Fast.te10962862871223965100]; kernel_rfl
  df := ⟨⟨_, rfl, rfl, rfl, by kernel_rfl, fun _ => by kernel_rfl⟩, by kernel_rfl, by kernel_rfl⟩
  snew := fun l => by rw [PySem.W.Fast.te10254737850608025244]; kernel_rfl
  call := by kernel_rfl
  inst := by kernel_rfl
  made := by kernel_rfl
  self := by kernel_rfl
  init := by kernel_rfl
  list := by kernel_rfl
theorem tlC_284 (w : World) : TLC w 284 where
  cls := ⟨_, _, _, _, rfl, rfl, rfl, rfl, by kernel_rfl⟩
  sub := by kernel_rfl
  opq := by rw [PySem.W.Fast.te10962862871223965100]; kernel_rfl
  df := ⟨⟨_, rfl, rfl, rfl, by kernel_rfl, fun _ => by kernel_rfl⟩, by kernel_rfl, by kernel_rfl⟩
  snew := fun l => by rw [PySem.W.Fast.te10254737850608025244]; kernel_rfl
  call := by kernel_rfl
  inst := by kernel_rfl
  made := by kernel_rfl
  self := by kernel_rfl
  init := by kernel_rfl
  list := by kernel_rfl
end Mine

end
section
open PySem PySem.W PyProof.Rows PySem.Calls
set_option maxRecDepth 100000
namespace Mine
theorem plain_listNew : plainId "list.__new__" = true := by decide +kernel
theorem entry_listNew : entryFor table "list.__new__" = some Builtin.«list.__new__» := entryFor_of_tree (by kernel_rfl)
theorem owner_list : (String.splitOn "list.__new__" ".__new__").headD "" = "list" := by simp +decide [String.splitOn, String.splitOnAux]

theorem list_new {w A s} {C : Addr} {l : Value} {P : Value → Shared → Prop} (T : TLC w C) (B : Bs w s.heap)
    (hP : P (.ref (s.heap.objs.size + 1)) { s with heap := (s.heap.push { cls := .type "dict", data := .dict #[] }).push (tlObj C s.heap.objs.size #[] 0) }) :
    Does w A (.call (.builtin "list.__new__") ⟨[.ref C, l], []⟩) s P := by
  obtain ⟨hh, g, d, tks, os⟩ := s
  refine codeAny_call_builtin_code (plainId_quiet plain_listNew _) ((look B (T.snew l)).here ?_)
  refine codeAny_builtinAt entry_listNew ?_
  obtain ⟨oc, od, cd, sl, ho, hdel, hdict, hne, hdrop⟩ := T.cls
  have hC := B.K _ _ ho
  have hsub := looks_mroIn (M := MM w) B.K T.list
  dsimp only at hC hsub hP
  have hty : Looks (MM w) hh (isType (.ref C)) true := (Looks.ld hC).andThen .now
  have how := owner_list
  unfold Builtin.«list.__new__»
  refine _root_.PySem.wpAt_bind (_root_.PySem.wpAt_stack fun p below => _root_.PySem.wpAt_of_wpAny ?_)
  dsimp only
  rw [how]
  repeat (first
    | (with_reducible refine Looks.at hty ?_) | (with_reducible refine Looks.at hsub ?_)
    | lk)
  have hC' := Heap.get?_push_of_some (tlObj C hh.objs.size #[] 0) (Heap.get?_push_of_some ({ cls := .type "dict", data := .dict #[] } : Obj) hC)
  refine nd_load hC' (nd_pure ?_)
  dsimp only
  rw [hdel]
  refine wpAny_pure (wpAny_pure (wpAny_pure ⟨_, rfl, ?_⟩))
  rw [Heap.size_push]
  exact hP

theorem entry_listInit : entryFor table "list.__init__" = some Builtin.«list.__init__» := entryFor_of_tree (by kernel_rfl)
theorem plain_listInit : plainId "list.__init__" = true := by decide +kernel
theorem bound_listInit (a b : Value) : checkBoundCall "list.__init__" ⟨[a, b], []⟩ = pure () := by kernel_rfl
abbrev mwObj (f self : Value) : Obj := { cls := .type "method-wrapper", data := .fields #[f, self] }

theorem list_init {w A s} {C x d l mw : Addr} {items : Array Value} {ep : Nat} {P : Value → Shared → Prop} (hx : s.heap.get? x = some (tlObj C d #[] ep)) (hl : s.heap.IsList l items) (hxl : x ≠ l) (hz : items.size ≤ sizeLine)
    (hmw : s.heap.get? mw = some (mwObj (.builtin "list.__init__") (.ref x)))
    (hP : ∀ h' ep', h'.get? x = some (tlObj C d items ep') → Heap.SameBut x s.heap h' → P .none { s with heap := h' }) :
    Does w A (.call (.ref mw) ⟨[.ref l], []⟩) s P := by
  refine codeAny_of_tree ?_
  show wpAny _ _ (callAny (.ref mw) _) _ _ _
  refine nd_load hmw ?_
  show wpAny _ _ (checkBoundCall "list.__init__" ⟨[.ref x, .ref l], []⟩ >>= fun _ => again (.builtin "list.__init__" ⟨[.ref x, .ref l], []⟩)) _ _ _
  rw [bound_listInit]
  refine wpAny_bind (wpAny_pure (wpAny_pure ⟨plainId_quiet plain_listInit _, ?_⟩))
  refine does_builtin_at plain_listInit entry_listInit ?_
  obtain ⟨ol, hol, hcl, nl, hdl⟩ := id hl
  have ht : Looks (MM w) s.heap (typeOf (.ref l)) (.type "list") := looks_type hol hcl
  unfold Builtin.«list.__init__»
  have e1 : (Obj.mapSeq (fun _ => #[]) (tlObj C d #[] ep)) = tlObj C d #[] ep := rfl
  have u1 := Heap.get?_update_self (Obj.mapSeq (fun _ => #[])) hx (by rw [e1]; rfl)
  have ul1 := (Heap.get?_update_other s.heap (Obj.mapSeq (fun _ => #[])) hxl).trans hol
  have e2 : (Obj.mapSeq (· ++ items) (tlObj C d #[] ep)) = tlObj C d items (if items.size == 0 then ep else ep + 1) := by
    show (⟨Value.ref C, some d, .seq (#[] ++ items) (if (#[] ++ items).size == (#[] : Array Value).size then ep else ep + 1), #[]⟩ : Obj) = _
    rw [Array.empty_append]; rfl
  rw [e1] at u1
  have u2 := Heap.get?_update_self (Obj.mapSeq (· ++ items)) u1 (by rw [e2]; rfl)
  rw [e2] at u2
  refine wpAny_bind (m := Builtin.List.listItems (.ref x)) (wpAny_bind (wpAny_seqItems hx rfl (wpAny_pure ?_)))
  refine wpAny_bind (m := Builtin.List.listUpdate (.ref x) _) (wpAny_updateSeq hx rfl ?_ (by show 0 ≤ sizeLine; omega) (by show 0 ≤ _; omega))
  refine wpAny_bind (wpAny_letGo ?_)
  show wpAny _ _ (Builtin.List.listExtendWith (.ref x) (.ref l) .none) _ _ _
  unfold Builtin.List.listExtendWith
  refine wpAny_bind ((looks_type (x := l) ul1 hcl).here ?_)
  rw [if_pos (by simp)]
  refine wpAny_bind (m := Builtin.List.listItems (.ref l)) (wpAny_bind (wpAny_seqItems ul1 hdl (wpAny_pure ?_)))
  refine wpAny_bind (m := Builtin.List.listItems (.ref x)) (wpAny_bind (wpAny_seqItems u1 rfl (wpAny_pure ?_)))
  rw [if_neg (by simp)]
  refine wpAny_bind (m := Builtin.List.listUpdate (.ref x) _) (wpAny_updateSeq (xs := #[]) (f := (· ++ items)) u1 rfl ?_ (Nat.zero_le _) (by rw [Array.empty_append]; omega))
  exact wpAny_pure ⟨_, rfl, hP _ _ u2 ((Heap.SameBut.update ..).trans (Heap.SameBut.update ..))⟩
end Mine

end
section
open PySem PySem.W PyProof.Rows PySem.Calls
set_option maxRecDepth 100000
namespace Mine
theorem plain_wdGet : plainId "wrapper_descriptor.__get__" = true := by decide +kernel
theorem entry_wdGet : entryFor table "wrapper_descriptor.__get__" = some Builtin.«wrapper_descriptor.__get__» := entryFor_of_tree (by kernel_rfl)
theorem check_wdGet (x C : Addr) : checkBuiltinCall "wrapper_descriptor.__get__" ⟨[.builtin "list.__init__", .ref x, .ref C], []⟩ = pure () := by rw [PySem.W.Fast.te10254737850608025244]; kernel_rfl
theorem typ_listInit : typeOf (.builtin "list.__init__") = pure (.type "wrapper_descriptor") := by show builtinType _ = _; rw [builtinType_eq_fast]; kernel_rfl
theorem get_wd : typeLookup (.type "wrapper_descriptor") (Str.ofString "__get__") = pure (some (.builtin "wrapper_descriptor.__get__")) := by rw [typeLookup_type, builtinLookup_eq_fast]; kernel_rfl
theorem wd_get {w A s} {C x : Addr} {ox : Obj} {P : Value → Shared → Prop} (B : Bs w s.heap) (hx : s.heap.get? x = some ox) (hc : ox.cls = .ref C) (hl : mroIn (KK w) C (.type "list") = some true)
    (hP : P (.ref s.heap.objs.size) { s with heap := s.heap.push (mwObj (.builtin "list.__init__") (.ref x)) }) :
    Does w A (.call (.builtin "wrapper_descriptor.__get__") ⟨[.builtin "list.__init__", .ref x, .ref C], []⟩) s P := by
  refine does_builtin plain_wdGet entry_wdGet (fun Q E q => by rw [check_wdGet]; exact wpAny_pure q) ?_
  have ht : Looks (MM w) s.heap (isInstance (.ref x) (.type "list")) true := (looks_type hx hc).andThen (looks_mroIn B.K hl)
  obtain ⟨hh, g, d, tk, os⟩ := s
  dsimp only at ht hP
  have ht' : Looks (MM w) hh (isInstance (.ref x) (.type (".".intercalate ("list.__init__".cutAt '.').dropLast))) true := by
    rw [show (".".intercalate ("list.__init__".cutAt '.').dropLast) = "list" from by decide +kernel]; exact ht
  unfold Builtin.«wrapper_descriptor.__get__»
  repeat (first | (with_reducible refine Looks.at ht' ?_) | (with_reducible refine wpAny_newObj_type ?_ (by size_fits)) | lk)
  exact ⟨_, rfl, hP⟩
end Mine

end
section
open PySem PySem.W PyProof.Rows PySem.Calls
set_option maxRecDepth 100000
namespace Mine
set_option maxHeartbeats 1000000 in
theorem bind51 {w A} {fd : FuncData} {oc : Value} {od : Option Addr} {osl : Array (Option Value)} (ho : (KK w).lookup 51 = some ⟨oc, od, .func fd, osl⟩) {x l : Value} {hh : Heap} {g d t os} {Q : List (Str × Value) → Shared → Prop} {E : Value → Shared → Prop}
    (hq : Q [("self", x), ("args", .ref hh.objs.size), ("kw", .ref (hh.objs.size + 1))] ⟨(hh.push { cls := .type "tuple", data := .seq #[l] }).push { cls := .type "dict", data := .dict #[] }, g, d, t, os⟩) :
    wpAny (MM w) A (bindArgs fd ⟨[x, l], []⟩) Q E ⟨hh, g, d, t, os⟩ := by
  have e : (KK w).lookup 51 = some _ := rfl
  rw [e] at ho
  cases ho
  unfold bindArgs
  repeat lk
  rw [Heap.size_push]
  exact hq

end Mine

end
section
open PySem PySem.W PyProof.Rows PySem.Calls
set_option maxRecDepth 100000
namespace Mine
theorem sub_dict : isSubtype (.type "dict") (.type "dict") = pure true := by rw [isSubtype_type]; kernel_rfl
theorem iter_dict : typeLookup (.type "dict") (Str.ofString "__iter__") = pure (some (.builtin "dict.__iter__")) := by rw [typeLookup_type, builtinLookup_eq_fast]; kernel_rfl
theorem iter_tuple : typeLookup (.type "tuple") (Str.ofString "__iter__") = pure (some (.builtin "tuple.__iter__")) := by rw [typeLookup_type, builtinLookup_eq_fast]; kernel_rfl
abbrev emptyD : Obj := { cls := .type "dict", data := .dict #[] }
abbrev tupObj (xs : Array Value) : Obj := { cls := .type "tuple", data := .seq xs }

theorem nd_tryCatch {α : Type} {M : Model} {A : Around} {E : Value → Shared → Prop} {s : Shared} {m : Sem α} {k : Value → Sem α} {Q : α → Shared → Prop} (h : wpAny M A m Q (fun e s' => wpAny M A (k e) Q E s') s) :
    wpAny M A (Sem.tryCatch m k) Q E s := wpAny_tryCatch h

set_option maxHeartbeats 1000000 in
theorem evalArgs_star {w A} {E : Value → Shared → Prop} {tu kd : Addr} {f v : Value} {x y : Sem Value} {Q : Args → Shared → Prop} {hh : Heap} {g d t os}
    (hx : ∀ (Q' : Value → Shared → Prop), Q' (.ref tu) ⟨hh, g, d, t, os⟩ → wpAny (MM w) A x Q' E ⟨hh, g, d, t, os⟩)
    (hy : ∀ (Q' : Value → Shared → Prop) E' h', Keep hh h' → Q' (.ref kd) ⟨h', g, d, t, os⟩ → wpAny (MM w) A y Q' E' ⟨h', g, d, t, os⟩)
    (ht : hh.get? tu = some (tupObj #[v])) (hk : hh.get? kd = some emptyD) (hs : (kd == sysModules) = false)
    (hQ : ∀ h', Keep hh h' → Q ⟨[v], []⟩ ⟨h', g, d, t, os⟩) :
    wpAny (MM w) A (evalArgs f true [(true, x)] [(none, y)]) Q E ⟨hh, g, d, t, os⟩ := by
  unfold evalArgs
  refine wpAny_bind (hx _ ?_)
  refine wpAny_bind (wpAny_pure ?_)
  dsimp only
  refine wpAny_holding ?_
  have k1 : Keep hh (hh.push emptyD) := fun b o e => Heap.get?_push_of_some _ e
  have hn : (hh.push emptyD).get? hh.objs.size = some emptyD := Heap.get?_push_size _ rfl
  have hk' := k1 _ _ hk
  have ht' := k1 _ _ ht
  have hkt : Looks (MM w) (hh.push emptyD) (isInstance (.ref kd) (.type "dict")) true := (looks_type hk' rfl).andThen (Looks.of_pure sub_dict)
  have hki : Looks (MM w) (hh.push emptyD) (specialOf (.ref kd) "__iter__") (some (.builtin "dict.__iter__")) := (looks_type hk' rfl).andThen (Looks.of_pure iter_dict)
  have hti : Looks (MM w) (hh.push emptyD) (specialOf (.ref tu) "__iter__") (some (.builtin "tuple.__iter__")) := (looks_type ht' rfl).andThen (Looks.of_pure iter_tuple)
  have hcol : ∀ {Q' : List Value → Shared → Prop} {E' : Value → Shared → Prop}, (∀ h', Keep (hh.push emptyD) h' → Q' [v] ⟨h', g, d, t, os⟩) → wpAny (MM w) A (collect (.ref tu)) Q' E' ⟨hh.push emptyD, g, d, t, os⟩ := fun {Q' E'} q =>
    wpAny_collect_seq tu (T := "tuple") (items := #[v]) (n := 0) (.inr rfl) ht' rfl rfl q (by rw [sizeLine_eq]; show 1 ≤ _; decide)
  repeat (first | with_reducible refine wpAny_alloc ?_ | (with_reducible refine hy _ _ _ k1 ?_) | (with_reducible refine hcol ?_) | ((with_reducible show wpAny _ _ (if (kd == sysModules) = true then _ else _) _ _ _); rw [if_neg (by rw [hs]; decide)]) | with_reducible refine nd_tryCatch ?_ | lk)
  intro h' k'
  have hn' := k' _ _ hn
  repeat lk
  exact hQ _ fun b o e => k' _ _ (k1 _ _ e)
end Mine

end
section
open PySem PySem.W PyProof.Rows PySem.Calls
set_option maxRecDepth 100000
namespace Mine
theorem bs_pos {w : World} {h : Heap} (B : Bs w h) : 429 < h.objs.size := Heap.lt_size (B.K 429 _ (show (KK w).lookup 429 = some _ from rfl))

theorem wpAny_release' {M : Model} {A : Around} {E : Value → Shared → Prop} {s : Shared} {vs keep : List Value} {Q : Unit → Shared → Prop} (h : Q () s) : wpAny M A (release vs keep) Q E s := fun Γ p _ => by
  rw [Sem.wp_release]; exact h

set_option maxHeartbeats 4000000 in
theorem init51 {w A s} {C x d l : Addr} {items : Array Value} {ep : Nat} {P : Value → Shared → Prop} (T : TLC w C) (hA : Small A 8) (B : Bs w s.heap) (hx : s.heap.get? x = some (tlObj C d #[] ep)) (hd : s.heap.get? d = some (dictOf [] 0)) (hxd : x ≠ d) (hxl : x ≠ l)
    (hl : s.heap.IsList l items) (hz : items.size ≤ sizeLine) (hK : ∀ b o, (KK w).lookup b = some o → b ≠ x ∧ b ≠ d) (hlim : ∀ h', (∀ b o, b ≠ x → b ≠ d → s.heap.get? b = some o → h'.get? b = some o) → Bs w h')
    (hP : ∀ h' tk' ep' es n, h'.get? x = some (tlObj C d items ep') → h'.get? d = some (dictOf es n) → getL "token_type" es = some none → (∀ b o, b ≠ x → b ≠ d → s.heap.get? b = some o → h'.get? b = some o) →
      s.toks ≤ tk' → P .none { s with heap := h', toks := tk' }) : Does w A (.call (.ref 51) ⟨[.ref x, .ref l], []⟩) s P := by
  obtain ⟨hh, g, dr, tk, os⟩ := s
  dsimp only at hx hd hl hP hlim B
  have ho : (KK w).lookup 51 = some _ := rfl
  refine codeAny_call_function hA.room (B.K _ _ ho) rfl rfl rfl rfl (codeRec_of B.K (by kernel_rfl)) ?_
  refine bind51 ho ?_
  refine wpAny_newFunctionEnv (by decide) (locs (by rfl)) (fun h₁ n₁ e₁ => ?_) rfl
  dsimp only at n₁ e₁ ⊢
  have ht0 : ((hh.push (tupObj #[.ref l])).push emptyD).get? hh.objs.size = some (tupObj #[.ref l]) := Heap.get?_push_of_some _ (Heap.get?_push_size _ rfl)
  have hk0 : ((hh.push (tupObj #[.ref l])).push emptyD).get? (hh.objs.size + 1) = some emptyD := Heap.get?_push_at (by rw [Heap.size_push]) rfl
  have k₀ : Keep hh ((hh.push (tupObj #[.ref l])).push emptyD) := fun b o e => Heap.get?_push_of_some _ (Heap.get?_push_of_some _ e)
  have e₁' : ∀ b o, ((hh.push (tupObj #[.ref l])).push emptyD).get? b = some o → h₁.get? b = some o := fun b o e => (e₁.2 b (ne_of_get e (Nat.le_refl _))).trans (Heap.get?_push_of_some _ e)
  have k₁ : Keep hh h₁ := fun b o e => e₁' _ _ (k₀ _ _ e)
  have ht₁ := e₁' _ _ ht0
  have hk₁ := e₁' _ _ hk0
  have B₁ := B.keeps k₁
  refine ⟨B₁.lim, ?_⟩
  have hL : ((hh.push (tupObj #[.ref l])).push emptyD).objs.size = hh.objs.size + 2 := by rw [Heap.size_push, Heap.size_push]
  refine ks_codeAny_funcAt ?_
  dsimp only [newEnv]
  clear ht0 hk0 k₀ e₁ e₁'
  generalize ((hh.push { cls := Value.type "tuple", data := Data.seq #[Value.ref l] }).push { cls := Value.type "dict", data := Data.dict #[] }).objs.size = L at n₁ hL ⊢
  generalize hAd : A.deeper _ = A₁
  have hA₁ : Small A₁ 7 := hAd ▸ hA.deeper
  clear hAd
  obtain ⟨ocl, odl, cd, sl, hoC, hdel, hdict, hmro, hdrop⟩ := T.cls
  refine ks_wpAt_execs_cons (ks_wpAt_Expr_any ?_)
  rw [arm_eval_Call]
  refine _root_.PySem.wpAt_bind (ks_wpAt_super_base (f := 51) (cc := 50) rfl rfl (by decide) rfl (B₁.K _ _ ho) rfl rfl rfl (B₁.K _ _ (show (KK w).lookup 50 = some _ from rfl)) rfl rfl (by decide +kernel) htop_super ?_)
  clear ho
  refine ks_loadName_global rfl rfl (load_bi B₁ (by kernel_rfl) (let ⟨mb, a, _, _, b⟩ := B₁.bi; ⟨mb, a, b⟩) ⟨rfl, ?_⟩)
  refine wpAny_loadName_free rfl rfl rfl ⟨_, B₁.K _ _ (show (KK w).lookup 39 = some _ from rfl), rfl⟩ ?_
  refine wpAny_loadName_local (v := .ref x) rfl rfl n₁ rfl ?_
  have h139 := B₁.K _ _ (show (KK w).lookup 139 = some _ from rfl)
  refine ks_wpAny_isType_cls h139 rfl ⟨rfl, ?_⟩
  have hx₁ := k₁ _ _ hx
  refine ks_wpAny_call_super h139 rfl hx₁ rfl (fun c e => nomatch e) (looks_mroIn B₁.K T.sub) fun h₂ hso k₂ => ?_
  have B₂ := B₁.keeps k₂
  have hx₂ := k₂ _ _ hx₁
  refine _root_.PySem.wpAt_of_wpAny (wpAny_bind (wpAny_standAt ?_))
  unfold methodCall
  refine wpAny_bind (wpAny_holding (wpAny_bind ?_))
  refine getAttr_super hso (super_bound (l := [.type "list", .type "object"]) hso (look B₂ T.opq) ((looks_clsIn B₂.K (by unfold clsIn; rw [hoC])).andThen .now) hdrop B₂.K (a := .builtin "list.__init__") (by kernel_rfl) (by decide) typ_listInit get_wd (by have : x ≠ C := (hK C _ hoC).1.symm; simp [this]) ?_)
  refine wd_get B₂ hx₂ rfl T.list ⟨_, rfl, rfl, ?_⟩
  refine wpAny_pure ?_
  dsimp only
  refine wpAny_bind (wpAny_of_eq rfl ?_)
  have k₃ : Keep h₂ (h₂.push (mwObj (.builtin "list.__init__") (.ref x))) := fun b o e => Heap.get?_push_of_some _ e
  have hmw : (h₂.push (mwObj (.builtin "list.__init__") (.ref x))).get? h₂.objs.size = some (mwObj (.builtin "list.__init__") (.ref x)) := Heap.get?_push_size _ rfl
  have n₃ := (n₁.keeps k₂).keeps k₃
  have hx₃ := k₃ _ _ hx₂
  have B₃ := B₂.keeps k₃
  have hp := bs_pos B
  unfold callWith
  refine wpAny_bind (wpAny_holding (evalArgs_star (tu := hh.objs.size) (kd := hh.objs.size + 1) (v := .ref l) ?_ ?_ (k₃ _ _ (k₂ _ _ ht₁)) (k₃ _ _ (k₂ _ _ hk₁)) (beq_eq_false_iff_ne.mpr (show hh.objs.size + 1 ≠ 1 by omega)) fun h₄ k₄ => ?_))
  · intro Q' q
    exact wpAny_bind (name_loc n₃ (v := .ref hh.objs.size) rfl (wpAny_bind (wpAny_standAt (wpAny_pure q))))
  · intro Q' E' h' k' q
    exact wpAny_bind (name_loc (n₃.keeps k') (v := .ref (hh.objs.size + 1)) rfl (wpAny_bind (wpAny_standAt (wpAny_pure q))))
  have hmw₄ := k₄ _ _ hmw
  repeat (first | with_reducible refine wpAny_call ?_ | with_reducible refine wpAny_standAt ?_ | lk)
  have hl₄ : h₄.IsList l items := by
    obtain ⟨ol, hol, r⟩ := hl
    exact ⟨ol, k₄ _ _ (k₃ _ _ (k₂ _ _ (k₁ _ _ hol))), r⟩
  have n₄ := n₃.keeps k₄
  have B₄ := B₃.keeps k₄
  have hx₄ := k₄ _ _ hx₃
  have hd₄ := k₄ _ _ (k₃ _ _ (k₂ _ _ (k₁ _ _ hd)))
  have kk : Keep hh h₄ := fun b o e => k₄ _ _ (k₃ _ _ (k₂ _ _ (k₁ _ _ e)))
  have lL : L ≠ x := by have := Heap.lt_size hx; rw [hL]; exact Nat.ne_of_gt (Nat.lt_of_lt_of_le this (Nat.le_add_right _ _))
  have lD : L ≠ d := by have := Heap.lt_size hd; rw [hL]; exact Nat.ne_of_gt (Nat.lt_of_lt_of_le this (Nat.le_add_right _ _))
  refine codeAny_of_does (list_init (P := fun v s' => v = .none ∧ ∃ h₅ ep', s' = (⟨h₅, g, dr, tk + 3 + 1, os⟩ : Shared) ∧ h₅.get? x = some (tlObj C d items ep') ∧ Heap.SameBut x h₄ h₅) hx₄ hl₄ hxl hz hmw₄ fun h₅ ep' a b => ⟨rfl, h₅, ep', rfl, a, b⟩) fun v s' h => ?_
  obtain ⟨rfl, h₅, ep', rfl, hx₅, e₅⟩ := h
  refine wpAny_bind (wpAny_release' (wpAny_pure ?_))
  refine wpAny_bind (wpAny_holding (wpAny_point (wpAny_pure ?_)))
  have n₅ := n₄.sameBut e₅ lL
  have k₅ : ∀ b o, b ≠ x → b ≠ d → hh.get? b = some o → h₅.get? b = some o := fun b o hb _ e => (e₅.2 b hb).trans (kk _ _ e)
  have B₅ : Bs w h₅ := hlim h₅ k₅
  have hd₅ := (e₅.2 d (Ne.symm hxd)).trans hd₄
  refine ks_wpAt_execs_cons (_root_.PySem.wpAt_of_wpAny (plainObj_wpAny_Assign_Attribute (List_ (spliced_nil (wpAny_newObj_type ?_ (by size_fits))))))
  have k₆ : Keep h₅ (h₅.push { cls := .type "list", data := .seq #[] }) := fun b o e => Heap.get?_push_of_some _ e
  have n₆ := n₅.keeps k₆
  have B₆ := B₅.keeps k₆
  refine name_loc n₆ (v := .ref x) rfl ?_
  refine set_own B₆ T.df (k₆ _ _ hx₅) rfl rfl rfl (k₆ _ _ hd₅) rfl (by show 1 ≤ 1000; decide) fun h₇ d₇ e₇ => ?_
  dsimp only
  refine _root_.PySem.wpAt_of_wpAny (wpAny_execs_nil ?_)
  refine ⟨_, rfl, hP _ _ ep' _ _ ((e₇.2 x hxd).trans (k₆ _ _ hx₅)) d₇ ?_ (fun b o hb hb' e => (e₇.2 b hb').trans (k₆ _ _ (k₅ b o hb hb' e))) ?_⟩
  · rfl
  · show tk ≤ _; omega
end Mine

end
section
open PySem PySem.W PyProof.Rows PySem.Calls
set_option maxRecDepth 100000
namespace Mine
set_option maxHeartbeats 1000000 in
theorem new_tl {w A s} {C l : Addr} {items : List Value} {P : Value → Shared → Prop} (T : TLC w C) (hA : Small A 12) (B : Bs w s.heap) (hl : s.heap.IsList l items.toArray) (hz : items.length ≤ sizeLine)
    (hP : ∀ v s', Grown s s' → TLN s.heap.objs.size s'.heap v C items → P v s') : Does w A (.call (.ref C) ⟨[.ref l], []⟩) s P := by
  obtain ⟨ocl, odl, cd, sl, hoC, hdel, hdict, hne, hdrop⟩ := T.cls
  refine does_class B hoC T.call T.inst ?_
  have hA' : Small (A.under (.builtin "type.__call__" ⟨.ref C :: [.ref l], []⟩)) 11 := hA.under (by rw [tc_weight]; decide) (by rw [tc_units]; decide)
  generalize A.under (.builtin "type.__call__" ⟨.ref C :: [.ref l], []⟩) = A' at hA' ⊢
  have hm : Looks (MM w) s.heap (mroOf (.ref C)) cd.mro := (looks_clsIn B.K (by unfold clsIn; rw [hoC])).andThen .now
  have hmade := look B T.made
  obtain ⟨hh, g, d, tks, os⟩ := s
  dsimp only at hm hmade B hl
  unfold Builtin.«type.__call__»
  repeat (first | simp only [hne, Bool.false_eq_true, if_false] | with_reducible refine wpAny_call ?_ | lk)
  refine codeAny_of_does (list_new (P := fun v s' => v = .ref (hh.objs.size + 1) ∧ s' = (⟨(hh.push { cls := .type "dict", data := .dict #[] }).push (tlObj C hh.objs.size #[] 0), g, d, tks, os⟩ : Shared)) T B ⟨rfl, rfl⟩) fun v s' h => ?_
  obtain ⟨rfl, rfl⟩ := h
  have k₁ : Keep hh ((hh.push { cls := .type "dict", data := .dict #[] }).push (tlObj C hh.objs.size #[] 0)) := fun b o e => Heap.get?_push_of_some _ (Heap.get?_push_of_some _ e)
  have hx₁ : ((hh.push { cls := .type "dict", data := .dict #[] }).push (tlObj C hh.objs.size #[] 0)).get? (hh.objs.size + 1) = some (tlObj C hh.objs.size #[] 0) := Heap.get?_push_at (by rw [Heap.size_push]) rfl
  have hd₁ : ((hh.push { cls := .type "dict", data := .dict #[] }).push (tlObj C hh.objs.size #[] 0)).get? hh.objs.size = some (dictOf [] 0) := Heap.get?_push_of_some _ (Heap.get?_push_size _ rfl)
  generalize ((hh.push { cls := .type "dict", data := .dict #[] }).push (tlObj C hh.objs.size #[] 0)) = h₁ at k₁ hx₁ hd₁ ⊢
  have B₁ := B.keeps k₁
  have t1 : Looks (MM w) h₁ (typeOf (.ref (hh.objs.size + 1))) (.ref C) := looks_type hx₁ rfl
  have t2 : Looks (MM w) h₁ (isInstance (.ref (hh.objs.size + 1)) (.ref C)) true := t1.andThen (looks_mroIn B₁.K T.self)
  have t3 := looks_findIn (M := MM w) B₁.K T.init
  have t4 : Looks (MM w) h₁ (bindSpecial (.ref 51) (.ref (hh.objs.size + 1))) (.ref 51, [.ref (hh.objs.size + 1)]) := bind_fn B₁.K _ (by kernel_rfl)
  unfold callSpecial? specialOf
  repeat (first | with_reducible refine wpAny_call ?_ | lk)
  obtain ⟨ol, hol, hcl, nl, hdl⟩ := hl
  have nol : ∀ b o, hh.get? b = some o → b ≠ hh.objs.size + 1 ∧ b ≠ hh.objs.size := fun b o e => ⟨ne_of_get e (Nat.le_succ _), ne_of_get e (Nat.le_refl _)⟩
  refine codeAny_of_does (init51 (P := fun v s' => v = .none ∧ ∃ h' tk' ep' es n, s' = (⟨h', g, d, tk', os⟩ : Shared) ∧ h'.get? (hh.objs.size + 1) = some (tlObj C hh.objs.size items.toArray ep') ∧ h'.get? hh.objs.size = some (dictOf es n) ∧ getL "token_type" es = some none ∧ Keep hh h' ∧ tks ≤ tk')
    T (hA'.weaken (by omega)) B₁ hx₁ hd₁ (Nat.succ_ne_self _) (Ne.symm (nol _ _ hol).1) ⟨ol, k₁ _ _ hol, hcl, nl, hdl⟩ (by rw [List.size_toArray]; exact hz) (fun b o e => nol b o (B.K _ _ e))
    (fun h' k => B.keeps fun b o e => k b o (nol _ _ e).1 (nol _ _ e).2 (k₁ _ _ e))
    fun h' tk' ep' es n a b c k e => ⟨rfl, h', tk', ep', es, n, rfl, a, b, c, (fun y o ey => k y o (nol _ _ ey).1 (nol _ _ ey).2 (k₁ _ _ ey)), e⟩) fun v s' h => ?_
  obtain ⟨rfl, h', tk', ep', es, n, rfl, a, b, c, kk, ht⟩ := h
  repeat lk
  exact ⟨_, rfl, hP _ _ (Grown.of_heap (s := ⟨hh, g, d, tks, os⟩) kk ht) ⟨_, _, es, n, ep', rfl, a, b, c, Nat.le_succ _, Nat.le_refl _⟩⟩
end Mine

end
section
open PySem PySem.W PyProof.Rows PySem.Calls
set_option maxRecDepth 100000
namespace Mine
/-- str(v) is the text t, from every heap that keeps h -/
def Shows (w : World) (h : Heap) (n : Nat) (v : Value) (t : Str) : Prop :=
  ∀ (A : Around) (s : Shared) (P : Value → Shared → Prop) (E : Value → Shared → Prop), Small A n → Bs w s.heap → KeepT h s.heap → (∀ s' u, Grown s s' → P (.str t u) s') → wpAny (MM w) A (call (.type "str") [v]) P E s
theorem Shows.keeps {w h h' n v t} (x : Shows w h n v t) (k : KeepT h h') : Shows w h' n v t := fun A s P E a b c d => x A s P E a b (k.trans c) d
theorem Shows.weaken {w h n m v t} (x : Shows w h n v t) (k : n ≤ m) : Shows w h m v t := fun A s P E a b c d => x A s P E (a.weaken k) b c d

theorem slot_strStr : Slot "str" "__str__" "str.__str__" := .of (owner := "str") (n := "__str__") (by rw [typeLookup_type, builtinLookup_eq_fast]; kernel_rfl) (by decide +kernel) (by decide +kernel) (by decide +kernel)
  (by first | exact .inl (by decide +kernel) | exact .inr (by decide +kernel)) (by rw [isSubtype_type]; kernel_rfl)
theorem entry_strStr : entryFor table "str.__str__" = some Builtin.«str.__str__» := entryFor_of_tree (by kernel_rfl)
theorem args_strStr (a : Value) : argsOk "str.__str__" ⟨[a], []⟩ := by unfold argsOk; kernel_rfl
theorem kind_strStr : builtinKind "str.__str__" = some .slot := by decide +kernel
theorem split_strStr : splitId "str.__str__" = some ("str", "__str__") := by decide +kernel

/-- strOf upon a terminal -/
theorem strOf_term {w A s} {x C d : Addr} {t : Str} {tk : Tok} {P : Value → Shared → Prop} {E : Value → Shared → Prop} (hA : Small A 2) (B : Bs w s.heap) (hx : s.heap.get? x = some (termObj C d t tk)) (hstr : mroIn (KK w) C (.type "str") = some true)
    (hf : findIn (KK w) (.ref C) "__str__" = some (some (.builtin "str.__str__"))) (ht : t.length ≤ sizeLine) (hP : P (.str t s.toks) { s with toks := s.toks + 1 }) :
    wpAny (MM w) A (PySem.Builtin.Str.strOf (.ref x)) P E s := by
  obtain ⟨hh, g, dr, tks, os⟩ := s
  dsimp only at B hx hP
  have t1 : Looks (MM w) hh (typeOf (.ref x)) (.ref C) := looks_type hx rfl
  have t2 : Looks (MM w) hh (isInstance (.ref x) (.type "str")) true := t1.andThen (looks_mroIn B.K hstr)
  have t3 := looks_findIn (M := MM w) B.K hf
  have t4 : Looks (MM w) hh (bindSpecial (.builtin "str.__str__") (.ref x)) (.builtin "str.__str__", [.ref x]) := Looks.of_pure (slot_strStr.bind _)
  have hcall : ∀ {Q : Value → Shared → Prop} {E'}, Q (.str t tks) ⟨hh, g, dr, tks + 1, os⟩ → wpAny (MM w) A (call (.builtin "str.__str__") ([Value.ref x] ++ [])) Q E' ⟨hh, g, dr, tks, os⟩ := by
    intro Q E' q
    refine wp_call_of (does_builtin slot_strStr.plain entry_strStr (fun Q' E'' q' => @check_slot (MM w) _ _ _ "str.__str__" "str" "__str__" (.ref x) [] [] _ kind_strStr split_strStr t2 (args_strStr (.ref x)) q') ?_)
    unfold Builtin.«str.__str__»
    repeat lk
    rw [if_neg (Nat.not_lt.mpr ht)]
    exact wpAny_bind (wpAny_fresh (wpAny_pure (wpAny_pure ⟨_, rfl, q⟩)))
  have hu : A.units < cLine := hA.units
  unfold PySem.Builtin.Str.strOf
  repeat (first | (with_reducible refine wpAny_cRoomFor hu ?_) | (with_reducible refine hcall ?_) | lk)
  exact hP

theorem shows_term {w h v} {C : Addr} {t k : Str} (hT : Tab h) (T : Term h v C t k) (hstr : mroIn (KK w) C (.type "str") = some true)
    (hf : findIn (KK w) (.ref C) "__str__" = some (some (.builtin "str.__str__"))) (ht : t.length ≤ sizeLine) : Shows w h 5 v t := by
  intro A s P E hA B hk hP
  obtain ⟨x, d, tk, es, n, tk', rfl, e1, e2, e3⟩ := T
  refine callType_codes (T := "str") (Bi := Builtin.«object.__init__») (Q₁ := fun r s₁ => ∃ y u, r = .str y u ∧ P r s₁) PySem.F.called_str (PySem.F.typeCall_str_1 _) PySem.F.entry_object_init ?_ ?_
  · refine codeAny_of_tree ?_
    show wpAny _ A.in1.in1 (do checkBuiltinCall "str.__new__" ⟨[.type "str", .ref x], []⟩; again (.builtin "str.__new__" ⟨[.type "str", .ref x], []⟩)) _ _ s
    refine wpAny_bind (wpAny_of_eq (PySem.F.newCall_str_1 _) (wpAny_pure ⟨plainId_quiet (by decide +kernel) _, codeAny_builtin PySem.F.entry_str_new ?_⟩))
    rw [Around.under_plainId (by decide +kernel) _]
    rw [str_new_tree]
    refine wpAny_bind (wpAny_pure ?_)
    refine wpAny_bind (wpAny_of_eq isSubtype_str_str ?_)
    exact wpAny_bind (strOf_term (hA.in1.in1.weaken (by omega)) B (KeepT.get hk hT e1 (.inl fun z => by cases z)) hstr hf ht (wpAny_pure ⟨_, _, rfl, hP _ _ (Grown.of_heap (fun _ _ e => e) (Nat.le_succ _))⟩))
  · rintro obj s₁ ⟨y, u, rfl, hq⟩
    exact ⟨typeIs_str _ _ _, PySem.F.args_object_init_2 _ _, object_init_meets PySem.F.called_str.init.lookup PySem.F.called_str.made (by decide) _ w A.in1 _ s₁ ⟨typeIs_str _ _ _, rfl, hq⟩⟩

/-- str(x) of an object whose class has a __str__ of the text's -/
theorem shows_fn {w h} {x C f : Addr} {ox : Obj} {od : Option Obj} {t : Str} {n : Nat} (hT : Tab h) (hod : ∀ o, od = some o → Solid o) (I : InstAt h x ox C od) (hf : findIn (KK w) (.ref C) "__str__" = some (some (.ref f))) (hfn : isFn (KK w) (.ref f) = true)
    (hc : ∀ (A : Around) (s : Shared) (P : Value → Shared → Prop), Small A n → Bs w s.heap → KeepT h s.heap → (∀ s' u, Grown s s' → P (.str t u) s') → Does w A (.call (.ref f) ⟨[.ref x], []⟩) s P) : Shows w h (n + 3) (.ref x) t := by
  intro A s P E hA B hk hP
  have I' : InstAt s.heap x ox C od := by
    obtain ⟨a, b, c, d⟩ := I
    refine ⟨KeepT.get hk hT a (.inl fun z => by rw [b] at z; cases z), b, c, ?_⟩
    revert d
    cases ox.dict <;> cases od <;> first | exact id | exact fun d => KeepT.get hk hT d (hod _ rfl)
  refine kso_call (Small.units (n := n) (hA.in1.in1.weaken (by omega))) B.K I' hf hfn ?_
  refine wp_call_of (hc _ _ _ (hA.in1.in1.weaken (by omega)) B hk fun s' u G => ?_)
  exact hP _ _ G
end Mine

end
section
open PySem PySem.W PyProof.Rows PySem.Calls
set_option maxRecDepth 100000
namespace Mine
/-- an object that holds items in a row -/
def IsSeq (h : Heap) (l : Addr) (items : List Value) : Prop := ∃ o n, h.get? l = some o ∧ o.data = .seq items.toArray n
theorem IsSeq.keeps {h h' : Heap} {l xs} (x : IsSeq h l xs) (k : Keep h h') : IsSeq h' l xs := let ⟨o, n, a, b⟩ := x; ⟨o, n, k _ _ a, b⟩

theorem IsSeq.keepsT {h h' : Heap} {l xs} (x : IsSeq h l xs) (T : Tab h) {X : Addr → Prop} (k : KeepX X h h') (hx : ¬ X l) : IsSeq h' l xs := let ⟨o, n, a, b⟩ := x; ⟨o, n, k.get T a (.inr fun vs q => by rw [b] at q; cases q) hx, b⟩

theorem slot_listIter' : PySem.Slot "list" "__iter__" "list.__iter__" := slot_list_iter
theorem kind_listIter : builtinKind "list.__iter__" = some .slot := by decide +kernel
theorem split_listIter : splitId "list.__iter__" = some ("list", "__iter__") := by decide +kernel
theorem looks_bound {M : Model} {h : Heap} {self f : Value} {name : Str} {r : Value × List Value} (hs : Looks M h (specialOf self name) (some f)) (hb : Looks M h (bindSpecial f self) r) : Looks M h (bindSpecialIfBound? self name) (some r) := by
  intro A Q E s k q
  unfold bindSpecialIfBound?
  refine wpAny_bind (hs A _ E s k ?_)
  dsimp only
  refine wpAny_bind (wpAny_askSetting ?_)
  split
  · exact wpAny_bind (hb A _ _ s k (wpAny_pure q))
  · exact nd_tryCatch (wpAny_bind (hb A _ _ s k (wpAny_pure q)))

section
variable {w : World} {A : Around} {E : Value → Shared → Prop} {s : Shared}
abbrev liObj (l : Addr) (i : Nat) : Obj := { cls := .type "list_iterator", data := .fields #[.ref l, .int i 0] }

/-- iter over an object of a list subclass -/
theorem pyIter_inst {a C : Addr} {oa : Obj} {Q : Value → Shared → Prop} (B : Bs w s.heap) (ha : s.heap.get? a = some oa) (hc : oa.cls = .ref C) (hl : mroIn (KK w) C (.type "list") = some true)
    (hf : findIn (KK w) (.ref C) "__iter__" = some (some (.builtin "list.__iter__")))
    (hQ : Q (.ref s.heap.objs.size) { s with heap := s.heap.push (liObj a 0) }) : wpAny (MM w) A (pyIter (.ref a)) Q E s := by
  obtain ⟨hh, g, dr, tks, os⟩ := s
  dsimp only at B ha hQ
  have t1 : Looks (MM w) hh (typeOf (.ref a)) (.ref C) := looks_type ha hc
  have t2 : Looks (MM w) hh (isInstance (.ref a) (.type "list")) true := t1.andThen (looks_mroIn B.K hl)
  have t3 := looks_findIn (M := MM w) B.K hf
  have t4 : Looks (MM w) hh (bindSpecial (.builtin "list.__iter__") (.ref a)) (.builtin "list.__iter__", [.ref a]) := Looks.of_pure (slot_list_iter.bind _)
  have hcall : ∀ {Q' : Value → Shared → Prop} {E'}, Q' (.ref hh.objs.size) ⟨hh.push (liObj a 0), g, dr, tks, os⟩ → wpAny (MM w) A (call (.builtin "list.__iter__") [Value.ref a]) Q' E' ⟨hh, g, dr, tks, os⟩ := by
    intro Q' E' q
    refine wp_call_of (does_builtin slot_list_iter.plain entry_list_iter (fun Q'' E'' q' => @check_slot (MM w) _ _ _ "list.__iter__" "list" "__iter__" (.ref a) [] [] _ kind_listIter split_listIter t2 (args_list_iter (.ref a)) q') ?_)
    show wpAny _ _ (do ret (← newFields "list_iterator" [.ref a, rawInt 0])) _ _ _
    exact wpAny_bind (wpAny_newObj_type (wpAny_pure ⟨_, rfl, q⟩))
  have hn : (hh.push (liObj a 0)).get? hh.objs.size = some (liObj a 0) := Heap.get?_push_size _ rfl
  have t5 : Looks (MM w) (hh.push (liObj a 0)) (specialOf (.ref hh.objs.size) "__next__") (some (.builtin "list_iterator.__next__")) := (looks_type hn rfl).andThen (Looks.of_pure slot_listiter_next.lookup)
  have ts : Looks (MM w) hh (specialOf (.ref a) "__iter__") (some (.builtin "list.__iter__")) := t1.andThen t3
  have tb := looks_bound ts t4
  unfold pyIter
  repeat (first | (with_reducible refine hcall ?_) | (with_reducible refine nd_tryCatch ?_) | (with_reducible refine wpAny_tryCatch ?_) | lk)
  exact hQ
end
end Mine

end
section
open PySem PySem.W PyProof.Rows PySem.Calls
set_option maxRecDepth 100000
namespace Mine
section
variable {w : World} {A : Around} {E : Value → Shared → Prop} {s : Shared}

theorem next_item {it l : Addr} {i : Nat} {items : List Value} {x : Value} {Q : Option Value → Shared → Prop} (hit : s.heap.IsListIter it l i) (hl : IsSeq s.heap l items) (hx : items[i]? = some x)
    (hQ : ∀ h', h'.IsListIter it l (i + 1) → Heap.SameBut it s.heap h' → Q (some x) { s with heap := h' }) : wpAny (MM w) A (pyNext (.ref it)) Q E s := by
  obtain ⟨o, ho, hc, hd⟩ := id hit
  obtain ⟨ol, nl, hol, hdl⟩ := hl
  unfold pyNext
  refine wpAny_bind (wpAny_attempt (wpAny_callSpecial?_slot (name := Str.ofString "__next__") hit.typeIs slot_listiter_next (wpAny_call_entry slot_listiter_next hit.typeIs entry_listiter_next ?_ (args_listiter_next _))))
  show wpAny _ _ (field (.ref it) 0 >>= _) _ _ s
  refine wpAny_bind (wpAny_field ho hd (x := .ref l) rfl ?_)
  show wpAny _ _ (if (Value.ref l == Value.none) = true then _ else _) _ _ s
  rw [if_neg (show ¬ ((Value.ref l == Value.none) = true) from Bool.false_ne_true)]
  show wpAny _ _ (field (.ref it) 1 >>= _) _ _ s
  refine wpAny_bind (wpAny_field ho hd (x := .int i 0) rfl ?_)
  show wpAny _ _ (seqItems? (.ref l) >>= _) _ _ s
  refine wpAny_bind (wpAny_seqItems hol hdl ?_)
  have hx' : items.toArray[(i : Int).toNat]? = some x := by rw [Int.toNat_natCast]; simpa using hx
  simp only [hx']
  refine wpAny_bind (wpAny_setField ho hd (by simp) (wpAny_pure ⟨x, rfl, wpAny_pure (hQ _ ?_ (Heap.SameBut.update ..))⟩))
  exact ⟨_, Heap.get?_update_self _ ho (Obj.isFreed_of_fields (Obj.data_mapFields hd _)), (Obj.cls_mapFields ..).trans hc, by
    rw [Obj.data_mapFields hd]; simp [rawInt]⟩

theorem next_end {it l : Addr} {i : Nat} {items : List Value} {Q : Option Value → Shared → Prop} (hh : A.handled = none) (hit : s.heap.IsListIter it l i) (hl : IsSeq s.heap l items) (hx : items[i]? = none)
    (hQ : ∀ h', Heap.ExtBut it s.heap h' → Q none { s with heap := h' }) : wpAny (MM w) A (pyNext (.ref it)) Q E s := by
  obtain ⟨o, ho, hc, hd⟩ := id hit
  obtain ⟨ol, nl, hol, hdl⟩ := hl
  unfold pyNext
  refine wpAny_bind (wpAny_attempt (wpAny_callSpecial?_slot (name := Str.ofString "__next__") hit.typeIs slot_listiter_next (wpAny_call_entry slot_listiter_next hit.typeIs entry_listiter_next ?_ (args_listiter_next _))))
  show wpAny _ _ (field (.ref it) 0 >>= _) _ _ s
  refine wpAny_bind (wpAny_field ho hd (x := .ref l) rfl ?_)
  show wpAny _ _ (if (Value.ref l == Value.none) = true then _ else _) _ _ s
  rw [if_neg (show ¬ ((Value.ref l == Value.none) = true) from Bool.false_ne_true)]
  show wpAny _ _ (field (.ref it) 1 >>= _) _ _ s
  refine wpAny_bind (wpAny_field ho hd (x := .int i 0) rfl ?_)
  show wpAny _ _ (seqItems? (.ref l) >>= _) _ _ s
  refine wpAny_bind (wpAny_seqItems hol hdl ?_)
  have hx' : items.toArray[(i : Int).toNat]? = none := by rw [Int.toNat_natCast]; simpa using hx
  simp only [hx']
  refine wpAny_bind (wpAny_rule (wpAny_bind (wpAny_setField ho hd (by simp) ?_)))
  show wpAny _ _ (newExc (.type "StopIteration") [] >>= _) _ _ _
  refine wpAny_bind ?_
  simp only [newExc, newTuple]
  refine wpAny_bind (wpAny_newObj_type ?_ (by size_fits))
  refine wpAny_bind (m := firstArgMember _ _) (wpAny_of_eq (a := Value.none) (by first | rfl | (simp only [firstArgMember]; rfl)) ?_)
  refine wpAny_newObj_type ?_ (by size_fits)
  simp only [raiseNew]
  refine wpAny_bind (wpAny_handled ?_)
  rw [show A.in1.handled = none from hh]
  refine wpAny_bind (wpAny_pure (wpAny_throw ?_))
  refine wpAny_bind (wpAny_isInstance (T := "StopIteration") (b := true) ⟨_, Heap.get?_push_size _ rfl, rfl⟩ isSubtype_stop ?_)
  exact wpAny_pure (hQ _ (((Heap.SameBut.update ..).extBut.push _).push _))

/-- iter over an exact list -/
theorem iter_list {l : Addr} {items : Array Value} {Q : Value → Shared → Prop} (hl : s.heap.IsList l items)
    (hQ : Q (.ref s.heap.objs.size) { s with heap := s.heap.push (liObj l 0) }) : wpAny (MM w) A (pyIter (.ref l)) Q E s := wpAny_pyIter_list hl hQ
theorem liObj_is {h : Heap} {it l : Addr} {i : Nat} (e : h.get? it = some (liObj l i)) : h.IsListIter it l i := ⟨_, e, rfl, rfl⟩
end

theorem Small.over {A : Around} {n : Nat} {c : Code} (h : Small A (n + 1)) (hw : c.weight ≤ 1) (hu : c.cUnits ≤ 10) : Small (A.over c []) n :=
  ⟨h.hd, by have := h.dp; simp only [Around.over, List.map_nil]; show A.depth + 0 + c.weight + n ≤ 900; omega, by have := h.un; simp only [Around.over, List.map_nil]; show A.units + 0 + c.cUnits + 10 * n ≤ 9000; omega⟩

/-- what a generator's run may turn: its own dict and iterator, the tables of codes, the generators made within -/
structure GS (C I : Addr) (s₀ s : Shared) : Prop where
  hp : KeepX (fun b => b = C ∨ b = I) s₀.heap s.heap
  os : s.os = s₀.os
  dr : s.drawn = s₀.drawn
  gz : s₀.gens.size ≤ s.gens.size
  go : ∀ k, k < s₀.gens.size → s.gens[k]? = s₀.gens[k]?
  gb : ∀ k, s₀.gens.size ≤ k → ∀ x, s.gens[k]? = some x → x.bare = true
theorem GS.refl (C I : Addr) (s : Shared) : GS C I s s :=
  ⟨.refl _ _, rfl, rfl, Nat.le_refl _, fun _ _ => rfl, fun k hk x hx => (by rw [Array.getElem?_eq_none hk] at hx; cases hx)⟩
theorem GS.step {C I : Addr} {s₀ s : Shared} (x : GS C I s₀ s) {h' : Heap} {tk : Nat} (hk : KeepX (fun b => b = C ∨ b = I) s.heap h') : GS C I s₀ { s with heap := h', toks := tk } :=
  ⟨x.hp.trans hk, x.os, x.dr, x.gz, x.go, x.gb⟩
theorem GS.grown {C I : Addr} {s₀ s s' : Shared} (x : GS C I s₀ s) (y : Grown s s') : GS C I s₀ s' where
  hp := x.hp.trans (KeepT.to y.hp)
  os := y.os.trans x.os
  dr := y.dr.trans x.dr
  gz := Nat.le_trans x.gz y.gz
  go := fun k hk => (y.go k (Nat.lt_of_lt_of_le hk x.gz)).trans (x.go k hk)
  gb := fun k hk v hv => by
    rcases Nat.lt_or_ge k s.gens.size with h | h
    · rw [y.go k h] at hv; exact x.gb k hk v hv
    · exact y.gb k h v hv
/-- what stood at hb stays, where only places above it turn -/
theorem KeepT.over {hb h h' : Heap} {C I : Nat} (k : KeepT hb h) (k2 : KeepX (fun b => b = C ∨ b = I) h h') (hC : hb.objs.size ≤ C) (hI : hb.objs.size ≤ I) : KeepT hb h' :=
  ⟨fun b o e n _ => k2.kp b o (k.kp b o e n fun q => q) n fun q => by rcases q with q | q; exact ne_of_get e hC q; exact ne_of_get e hI q, fun c P hm => (k.gr c P hm).trans (k2.gr c P hm)⟩
theorem isCode_at {h h' : Heap} {c P : Addr} {ps : Array Value} (x : h.IsCode c P ps) (hc : ∀ o, h.get? c = some o → h'.get? c = some o) (hP : ∀ o, h.get? P = some o → h'.get? P = some o) : h'.IsCode c P ps :=
  let ⟨o, vs, file, tf, flags, tg, inF, text, tt, op, a, r1, r2, r3, r4, r5, r6, b, r⟩ := x
  ⟨o, vs, file, tf, flags, tg, inF, text, tt, op, hc _ a, r1, r2, r3, r4, r5, r6, hP _ b, r⟩
theorem tableAt_at {h h' : Heap} {c P : Addr} {ps : Array Value} (x : h.TableAt c P ps) (hc : ∀ o, h.get? c = some o → h'.get? c = some o) (hP : ∀ o, h.get? P = some o → h'.get? P = some o) : h'.TableAt c P ps :=
  let ⟨⟨o, vs, a, r⟩, t⟩ := x; ⟨⟨o, vs, hc _ a, r⟩, hP _ t⟩
/-- what stood at hb stays, where all below N stays -/
theorem KeepT.below {hb h h' : Heap} {N : Nat} (T : Tab hb) (k : KeepT hb h) (hN : hb.objs.size ≤ N) (kk : ∀ b, b < N → ∀ o, h.get? b = some o → h'.get? b = some o) : KeepT hb h' :=
  ⟨fun b o e n _ => kk b (Nat.lt_of_lt_of_le (Heap.lt_size e) hN) o (k.kp b o e n fun q => q), fun c P hm ps p q => by
    have l : c < hb.objs.size ∧ P < hb.objs.size := let ⟨_, a, _⟩ := T.at hm; a.lt
    obtain ⟨m, p', q'⟩ := k.gr c P hm ps p q
    exact ⟨m, isCode_at p' (kk c (Nat.lt_of_lt_of_le l.1 hN)) (kk P (Nat.lt_of_lt_of_le l.2 hN)), tableAt_at q' (kk c (Nat.lt_of_lt_of_le l.1 hN)) (kk P (Nat.lt_of_lt_of_le l.2 hN))⟩⟩
end Mine

end
section
open PySem PySem.W PyProof.Rows PySem.Calls
set_option maxRecDepth 100000
namespace Mine

/-- the element and the tests of a generator expression, over the heap hb in which it is written -/
structure GenEl (w : World) (hb : Heap) (nA : Nat) (cenv : Env) (x : Str) (ifs : List Expr) (elt : Expr) (xs : List Value) (pz : Nat → Bool) (F : Nat → Value → Prop) : Prop where
  tests : ∀ (A : Around) (E : Value → Shared → Prop) i v (s : Shared) m, Small A nA → xs[i]? = some v → KeepT hb s.heap → s.heap.Ns cenv.locals m → m x = some v →
    wpAny (MM w) A (forIn ifs true fun c r => if r = true then do let ok ← isTrue c cenv (eval c cenv); pure (ForInStep.yield ok) else pure (ForInStep.yield r)) (fun ok s' => ok = pz i ∧ Grown s s') E s
  elt : ∀ (A : Around) (E : Value → Shared → Prop) i v (s : Shared) m, Small A nA → xs[i]? = some v → pz i = true → KeepT hb s.heap → s.heap.Ns cenv.locals m → m x = some v →
    wpAny (MM w) A (eval elt cenv) (fun y s' => F i y ∧ Grown s s') E s

/-- between two wakes -/
def proto (C I : Addr) (N : Nat) (pz : Nat → Bool) (n₀ : Nat) (F : Nat → Value → Prop) : Protocol := fun m s₀ v s kap =>
  (∃ i, (passing pz n₀ 0)[(passing pz n₀ 0).length - 1 - m]? = some i ∧ F i v) ∧ GS C I s₀ s ∧
    ∀ s'' : Shared, (∀ b, b < N → ∀ o, s.heap.get? b = some o → s''.heap.get? b = some o) → kap (.send .none) s''

/-- what stands at the i-th turn -/
structure Turn (hb : Heap) (C I l : Addr) (i : Nat) (h : Heap) : Prop where
  keep : KeepT hb h
  it : h.IsListIter I l i
  ns : ∃ m, h.Ns C m
theorem Turn.frame {hb : Heap} {C I l : Addr} {i : Nat} {h h' : Heap} {N : Nat} (hT : Tab hb) (T : Turn hb C I l i h) (hN : hb.objs.size ≤ N) (hC : C < N) (hI : I < N) (k : ∀ b, b < N → ∀ o, h.get? b = some o → h'.get? b = some o) : Turn hb C I l i h' :=
  ⟨KeepT.below hT T.keep hN k, let ⟨o, a, r⟩ := T.it; ⟨o, k _ hI _ a, r⟩, let ⟨m, n⟩ := T.ns; ⟨m, n.at' fun o e => k _ hC o e⟩⟩
theorem iter_keepsT {h h' : Heap} {I l : Addr} {i : Nat} (x : h.IsListIter I l i) (T : Tab h) (k : KeepT h h') : h'.IsListIter I l i :=
  let ⟨o, a, b, r⟩ := x; ⟨o, KeepT.get k T a (.inl fun z => by rw [b] at z; cases z), b, r⟩

section
variable {w : World} {A : Around} {elt iter : Expr} {x : Str} {px : Pos} {ifs : List Expr} {scope : Scope} {pos : Pos} {C I l : Addr} {hb : Heap} {N nA : Nat} {xs : List Value} {pz : Nat → Bool} {F : Nat → Value → Prop} {cenv : Env}

theorem seg_loop (hT : Tab hb) (hA : Small A (nA + 2)) (hC : cenv.locals = C) (hx : cenv.kindOf x = some .local) (hp : (cenv.scope.kind == .class || (cenv.scope.kind == .module && cenv.locals != cenv.globals)) = false)
    (hco : cenv.scope.isCoroutine = false) (hCI : C ≠ I) (hCb : hb.objs.size ≤ C) (hIb : hb.objs.size ≤ I) (hCN : C < N) (hIN : I < N) (hN : hb.objs.size ≤ N) (hl : IsSeq hb l xs)
    (hw : (Code.compLoop (.GeneratorExp elt [⟨.Name x px, iter, ifs, 0⟩] scope pos) 0 (.ref I) .none cenv).weight ≤ 1) (hu : (Code.compLoop (.GeneratorExp elt [⟨.Name x px, iter, ifs, 0⟩] scope pos) 0 (.ref I) .none cenv).cUnits ≤ 10)
    (G : GenEl w hb nA cenv x ifs elt xs pz F) :
    ∀ (k i : Nat) (s₀ s : Shared), xs.length - i = k → i ≤ xs.length → Turn hb C I l i s.heap → GS C I s₀ s →
      Seg (MM w) A (fun n s₀ r s₁ => r = .ok .next ∧ (n = 0 ∧ GS C I s₀ s₁)) (proto C I N pz xs.length F) (passing pz xs.length i).length s₀
        (.compLoop (.GeneratorExp elt [⟨.Name x px, iter, ifs, 0⟩] scope pos) 0 (.ref I) .none cenv)
        ((MM w).den (.compLoop (.GeneratorExp elt [⟨.Name x px, iter, ifs, 0⟩] scope pos) 0 (.ref I) .none cenv)) [] s := by
  have hA' : Small (A.over (.compLoop (.GeneratorExp elt [⟨.Name x px, iter, ifs, 0⟩] scope pos) 0 (.ref I) .none cenv) []) (nA + 1) := hA.over hw hu
  subst hC
  intro k
  induction k with
  | zero =>
    intro i s₀ s hk hi T S
    have hin : i = xs.length := by omega
    subst hin
    show Seg _ A _ _ _ s₀ _ ((compTurn (.GeneratorExp elt [⟨.Name x px, iter, ifs, 0⟩] scope pos) 0 (.ref I) .none cenv).onRaise (leaving cenv)) [] s
    rw [compTurn_gen, Sem.onRaise_eq_wrap]
    refine seg_bind_wrap (wpAny_standAt ?_)
    refine seg_bind_wrap (next_end hA'.hd T.it (hl.keepsT hT T.keep fun q => q) (by simp) fun h' k' => ?_)
    exact seg_end (.ok .next) ⟨rfl, by rw [passing_end]; rfl, S.step (KeepX.ext k' (.inr rfl) (hT.above hIb))⟩
  | succ k ih =>
    intro i s₀ s hk hi T S
    have hlt : i < xs.length := by omega
    show Seg _ A _ _ _ s₀ _ ((compTurn (.GeneratorExp elt [⟨.Name x px, iter, ifs, 0⟩] scope pos) 0 (.ref I) .none cenv).onRaise (leaving cenv)) [] s
    rw [compTurn_gen, Sem.onRaise_eq_wrap]
    refine seg_bind_wrap (wpAny_standAt ?_)
    have hv : xs[i]? = some xs[i] := List.getElem?_eq_getElem hlt
    refine seg_bind_wrap (next_item T.it (hl.keepsT hT T.keep fun q => q) hv fun h₁ i₁ e₁ => ?_)
    refine seg_bind_wrap (wpAny_of_eq (rfl : letOwnedTupleGo (.Name x px) (.ref I) xs[i] = pure ()) ?_)
    obtain ⟨m, n₀⟩ := T.ns
    refine seg_bind_wrap (wpAny_assign_Name (wpAny_storeName_local hx (n₀.at' fun o e => (e₁.2 _ hCI).trans e) (fun h₂ n₂ e₂ => ?_) hp))
    have up₂ : KeepX (fun b => b = cenv.locals ∨ b = I) s.heap h₂ := (KeepX.ext e₁.extBut (.inr rfl) (hT.above hIb)).trans (KeepX.ext e₂.extBut (.inl rfl) (hT.above hCb))
    have keep₂ : KeepT hb h₂ := KeepT.over T.keep up₂ hCb hIb
    have T₂ : Tab h₂ := keep₂.tab hT
    have i₂ : h₂.IsListIter I l (i + 1) := i₁.extBut e₂.extBut (Ne.symm hCI)
    have S₂ : GS cenv.locals I s₀ { s with heap := h₂, toks := s.toks + 1 } := S.step up₂
    refine seg_bind_wrap (wpAny_mono (G.tests _ _ i xs[i] _ _ (hA'.weaken (by omega)) hv keep₂ n₂ (by simp)) (fun ok s₃ h₃ => ?_) fun _ _ e => e)
    obtain ⟨rfl, G₃⟩ := h₃
    have T₃ : Turn hb cenv.locals I l (i + 1) s₃.heap := ⟨keep₂.trans G₃.hp, iter_keepsT i₂ T₂ G₃.hp, ⟨_, Ns.keepsT n₂ T₂ G₃.hp fun q => q⟩⟩
    have S₃ : GS cenv.locals I s₀ s₃ := S₂.grown G₃
    have n₃ := Ns.keepsT n₂ T₂ G₃.hp fun q => q
    cases hpz : pz i with
    | false =>
      rw [passing_false hlt hpz]
      simp only [Bool.false_eq_true, if_false]
      exact seg_again rfl (ih (i + 1) s₀ _ (by omega) hlt T₃ S₃)
    | true =>
      rw [passing_true hlt hpz, List.length_cons]
      simp only [if_true]
      have hy : ∀ v, yieldOut cenv v = yieldValue v := fun v => by simp only [yieldOut, hco, Bool.false_eq_true, if_false]
      simp only [hy]
      rw [Sem.bind_eq_wrap', Sem.bind_eq_wrap', Sem.wrap_wrap, Sem.wrap_wrap]
      refine seg_wrap (wpAny_mono (G.elt _ _ i xs[i] _ _ (hA'.weaken (by omega)) hv hpz T₃.keep n₃ (by simp)) (fun y s₄ h₄ => ?_) fun _ _ e => e)
      obtain ⟨hFy, G₄⟩ := h₄
      have T₄ : Turn hb cenv.locals I l (i + 1) s₄.heap := ⟨T₃.keep.trans G₄.hp, iter_keepsT T₃.it (T₃.keep.tab hT) G₄.hp, ⟨_, Ns.keepsT n₃ (T₃.keep.tab hT) G₄.hp fun q => q⟩⟩
      refine seg_at (seg_yield rfl rfl rfl ⟨⟨i, passing_here hlt hpz, hFy⟩, S₃.grown G₄, fun s'' hal => ?_⟩)
      exact seg_again rfl (ih (i + 1) s'' s'' (by omega) hlt (T₄.frame hT hN hCN hIN hal) (GS.refl _ _ _))
end
end Mine

end
section
open PySem PySem.W PyProof.Rows PySem.Calls
set_option maxRecDepth 100000
namespace Mine
section
variable {w : World} {A : Around} {elt iter : Expr} {x : Str} {px : Pos} {ifs : List Expr} {scope : Scope} {pos : Pos} {C I l : Addr} {hb : Heap} {N nA : Nat} {xs : List Value} {pz : Nat → Bool} {F : Nat → Value → Prop} {cenv : Env}

theorem seg_start (hT : Tab hb) (hA : Small A (nA + 2)) (hC : cenv.locals = C) (hx : cenv.kindOf x = some .local) (hp : (cenv.scope.kind == .class || (cenv.scope.kind == .module && cenv.locals != cenv.globals)) = false)
    (hco : cenv.scope.isCoroutine = false) (hCI : C ≠ I) (hCb : hb.objs.size ≤ C) (hIb : hb.objs.size ≤ I) (hCN : C < N) (hIN : I < N) (hN : hb.objs.size ≤ N) (hl : IsSeq hb l xs)
    (hw : (Code.compLoop (.GeneratorExp elt [⟨.Name x px, iter, ifs, 0⟩] scope pos) 0 (.ref I) .none cenv).weight ≤ 1) (hu : (Code.compLoop (.GeneratorExp elt [⟨.Name x px, iter, ifs, 0⟩] scope pos) 0 (.ref I) .none cenv).cUnits ≤ 10)
    (hw' : (Code.compStart (.GeneratorExp elt [⟨.Name x px, iter, ifs, 0⟩] scope pos) 0 (.ref I) .none cenv).weight ≤ 1) (hu' : (Code.compStart (.GeneratorExp elt [⟨.Name x px, iter, ifs, 0⟩] scope pos) 0 (.ref I) .none cenv).cUnits ≤ 10)
    (G : GenEl w hb nA cenv x ifs elt xs pz F) (s₀ s : Shared) (T : Turn hb C I l 0 s.heap) (S : GS C I s₀ s) :
    Seg (MM w) A (fun n s₀ r s₁ => r = .ok .next ∧ (n = 0 ∧ GS C I s₀ s₁)) (proto C I N pz xs.length F) (passing pz xs.length 0).length s₀
      (.compStart (.GeneratorExp elt [⟨.Name x px, iter, ifs, 0⟩] scope pos) 0 (.ref I) .none cenv)
      ((MM w).den (.compStart (.GeneratorExp elt [⟨.Name x px, iter, ifs, 0⟩] scope pos) 0 (.ref I) .none cenv)) [] s := by
  have loop := seg_loop (iter := iter) (px := px) (scope := scope) (pos := pos) hT hA hC hx hp hco hCI hCb hIb hCN hIN hN hl hw hu G xs.length 0 s₀ s (Nat.sub_zero _) (Nat.zero_le _) T S
  show Seg _ A _ _ _ s₀ _ ((compStart (.GeneratorExp elt [⟨.Name x px, iter, ifs, 0⟩] scope pos) 0 (.ref I) .none cenv).onRaise (leaving cenv)) [] s
  unfold compStart
  rw [Sem.onRaise_eq_wrap]
  show Seg _ A _ _ _ s₀ _ ((ask >>= _).wrap _ _ _ _) [] s
  refine seg_bind_wrap (wpAny_askSetting ?_)
  split
  · exact seg_again rfl loop
  · refine seg_bind_wrap (wpAny_rule ?_)
    show Seg _ A _ _ _ s₀ _ ((standAt iter.pos >>= _).wrap _ _ _ _) [] s
    exact seg_bind_wrap (wpAny_standAt (seg_bind_wrap (wpAny_pyIter_listiter T.it (seg_again rfl loop))))

/-- the turn of the generators' table, the g-th one aside -/
def Gr (g : Nat) (a b : Array GenState) : Prop :=
  a.size ≤ b.size ∧ (∀ k, k < a.size → k ≠ g → b[k]? = a[k]?) ∧ (∀ k, a.size ≤ k → ∀ y, b[k]? = some y → y.bare = true) ∧ ((∀ y, a[g]? = some y → y.bare = true) → ∀ y, b[g]? = some y → y.bare = true)
theorem Gr.refl (g : Nat) (a : Array GenState) : Gr g a a := ⟨Nat.le_refl _, fun _ _ _ => rfl, fun k hk y hy => (by rw [Array.getElem?_eq_none hk] at hy; cases hy), id⟩
theorem Gr.trans {g : Nat} {a b c : Array GenState} (x : Gr g a b) (y : Gr g b c) : Gr g a c :=
  ⟨Nat.le_trans x.1 y.1, fun k hk hg => (y.2.1 k (Nat.lt_of_lt_of_le hk x.1) hg).trans (x.2.1 k hk hg), fun k hk v hv => by
    rcases Nat.lt_or_ge k b.size with h | h
    · by_cases hg : k = g
      · subst hg
        exact y.2.2.2 (fun v' h' => x.2.2.1 k hk v' h') v hv
      · rw [y.2.1 k h hg] at hv; exact x.2.2.1 k hk v hv
    · exact y.2.2.1 k h v hv, fun h => y.2.2.2 (x.2.2.2 h)⟩

/-- the generator stands at its j-th value -/
def GenAt (w : World) (A : Around) (a g C I : Addr) (hb : Heap) (N : Nat) (pz : Nat → Bool) (n₀ : Nat) (F : Nat → Value → Prop) (j : Nat) (s : Shared) : Prop :=
  s.heap.IsGen a g ∧ s.heap.NoLimit ∧ KeepT hb s.heap ∧ ∃ gs, s.gens[g]? = some gs ∧ ∀ s'' : Shared, (∀ b, b < N → ∀ o, s.heap.get? b = some o → s''.heap.get? b = some o) →
    gs.Goes (MM w) A.in1 (fun n s₀ r s₁ => r = .ok .next ∧ (n = 0 ∧ GS C I s₀ s₁)) (proto C I N pz n₀ F) ((passing pz n₀ 0).length - j) (.send .none) s''

theorem setGen_get {s : Shared} {g : Nat} {x : GenState} (h : g < s.gens.size) : (s.setGen g x).gens[g]? = some x := by simp [Shared.setGen, h]
theorem setGen_ne {s : Shared} {g k : Nat} {x : GenState} (h : k ≠ g) : (s.setGen g x).gens[k]? = s.gens[k]? := by simp [Shared.setGen, Ne.symm h]
theorem setGen_size {s : Shared} {g : Nat} {x : GenState} : (s.setGen g x).gens.size = s.gens.size := by simp [Shared.setGen]

theorem gr_of_gs {C I : Addr} {s s₁ : Shared} {g : Nat} {gs' : GenState} (S : GS C I (s.setGen g .running) s₁) (hb : gs'.bare = true) : Gr g s.gens (s₁.setGen g gs').gens := by
  refine ⟨?_, fun k hk hg => ?_, fun k hk y hy => ?_, fun _ y hy => ?_⟩
  · rw [setGen_size]; have := S.gz; rw [setGen_size] at this; exact this
  · rw [setGen_ne hg, S.go k (by rw [setGen_size]; exact hk), setGen_ne hg]
  · by_cases hg : k = g
    · subst hg
      rcases Nat.lt_or_ge k s₁.gens.size with h | h
      · rw [setGen_get h] at hy; cases hy; exact hb
      · rw [Array.getElem?_eq_none (by rw [setGen_size]; exact h)] at hy; cases hy
    · rw [setGen_ne hg] at hy
      exact S.gb k (by rw [setGen_size]; exact hk) y hy
  · rcases Nat.lt_or_ge g s₁.gens.size with h | h
    · rw [setGen_get h] at hy; cases hy; exact hb
    · rw [Array.getElem?_eq_none (by rw [setGen_size]; exact h)] at hy; cases hy

theorem isGen_keepsX {h h' : Heap} {a : Addr} {g : Nat} {X : Addr → Prop} (x : h.IsGen a g) (T : Tab h) (k : KeepX X h h') (hx : ¬ X a) : h'.IsGen a g :=
  let ⟨o, nm, qn, ho, b, r⟩ := x; ⟨o, nm, qn, k.get T ho (.inl fun z => by rw [b] at z; cases z) hx, b, r⟩
theorem noLimit_keepsT {h h' : Heap} (x : h.NoLimit) (T : Tab h) {X : Addr → Prop} (k : KeepX X h h') (hx : ¬ X cStatics) : h'.NoLimit := let ⟨mc, a, b⟩ := x; ⟨mc, Ns.keepsT a T k hx, b⟩

/-- from a start before the generator was made -/
theorem Grown.gen {s₀ s s' : Shared} {g : Nat} (G : Grown s₀ s) (hg : s₀.gens.size ≤ g) (x : Gr g s.gens s'.gens) (hp : KeepT s₀.heap s'.heap) (os : s'.os = s.os) (dr : s'.drawn = s.drawn) : Grown s₀ s' where
  hp := hp
  os := os.trans G.os
  dr := dr.trans G.dr
  gz := Nat.le_trans G.gz x.1
  go := fun k hk => (x.2.1 k (Nat.lt_of_lt_of_le hk G.gz) (Nat.ne_of_lt (Nat.lt_of_lt_of_le hk hg))).trans (G.go k hk)
  gb := fun k hk v hv => by
    rcases Nat.lt_or_ge k s.gens.size with h | h
    · by_cases hkg : k = g
      · subst hkg; exact x.2.2.2 (fun y hy => G.gb k hk y hy) v hv
      · rw [x.2.1 k h hkg] at hv; exact G.gb k hk v hv
    · exact x.2.2.1 k h v hv

/-- something that gives n items: what stands below N at the i-th (St), what stands at the end (Fin) -/
structure WalksG (w : World) (A : Around) (I : Addr) (N n : Nat) (P : Nat → Value → Prop) (St : Nat → Shared → Prop) (Fin : Shared → Prop) : Prop where
  isGen : ∀ i s, St i s → s.TypeIs (.ref I) "generator"
  frame : ∀ i (s : Shared) h', St i s → (∀ b, b < N → ∀ o, s.heap.get? b = some o → h'.get? b = some o) → St i { s with heap := h' }
  item : ∀ i (s : Shared) (Q : Option Value → Shared → Prop) (E : Value → Shared → Prop), i < n → St i s →
    (∀ v s', P i v → St (i + 1) s' → (∀ b o, N ≤ b → s.heap.get? b = some o → s'.heap.get? b = some o) → Q (some v) s') → wpAny (MM w) A (pyNext (.ref I)) Q E s
  done : ∀ (s : Shared) (Q : Option Value → Shared → Prop) (E : Value → Shared → Prop), St n s →
    (∀ s', Fin s' → (∀ b o, N ≤ b → s.heap.get? b = some o → s'.heap.get? b = some o) → Q none s') → wpAny (MM w) A (pyNext (.ref I)) Q E s
  self : ∀ i (s : Shared) (Q : Value → Shared → Prop) (E : Value → Shared → Prop), St i s → Q (.ref I) s → wpAny (MM w) A (pyIter (.ref I)) Q E s

theorem tab_lt {hb : Heap} {N : Nat} (hT : Tab hb) (hN : hb.objs.size ≤ N) {b : Nat} (hm : N ≤ b) : b ∉ tabA := by
  have key : ∀ {c P : Addr}, TabAt hb c P → b ≠ P := fun {c P} ⟨_, a, _⟩ e => absurd (Nat.lt_of_lt_of_le (show P < hb.objs.size from a.lt.2) (Nat.le_trans hN hm)) (by rw [← e]; exact Nat.lt_irrefl _)
  intro h
  simp only [tabA, List.mem_cons, List.mem_nil_iff, or_false] at h
  rcases h with h | h | h | h
  · exact key hT.a h
  · exact key hT.b h
  · exact key hT.c h
  · exact key hT.d h

theorem walks_gen (hT : Tab hb) (hA : Small A 2) {a : Addr} {g : Nat} {n₀ : Nat} (haC : a ≠ C) (haI : a ≠ I) (haN : a < N) (hCN : C < N) (hIN : I < N) (hCb : hb.objs.size ≤ C) (hIb : hb.objs.size ≤ I) (hbN : hb.objs.size ≤ N) (hlim : hb.NoLimit)
    {s₀ : Shared} (hs₀ : s₀.heap = hb) (hg₀ : s₀.gens.size ≤ g) :
    WalksG w A a N (passing pz n₀ 0).length (fun j y => ∃ i, (passing pz n₀ 0)[j]? = some i ∧ F i y) (fun j s => GenAt w A a g C I hb N pz n₀ F j s ∧ Grown s₀ s) (Grown s₀) where
  isGen := fun j s st => st.1.1.typeIs
  frame := fun j s h' st hk => by
    obtain ⟨st, G⟩ := st
    have kb : KeepT hb h' := KeepT.below hT st.2.2.1 hbN hk
    refine ⟨⟨(let ⟨o, nm, qn, ho, r⟩ := st.1; ⟨o, nm, qn, hk a haN o ho, r⟩), noLimit_keepsT hlim hT kb fun q => q, kb, (let ⟨gs, hgs, hgo⟩ := st.2.2.2; ⟨gs, hgs, fun s'' hal => hgo s'' fun b hb o e => hal b hb o (hk b hb o e)⟩)⟩, ?_⟩
    exact ⟨hs₀ ▸ kb, G.os, G.dr, G.gz, G.go, G.gb⟩
  item := fun j s Q E hj st hQ => by
    obtain ⟨⟨hg, hl, hkb, gs, hgs, hgo⟩, G⟩ := st
    obtain ⟨m, hm⟩ : ∃ m, (passing pz n₀ 0).length - j = m + 1 := ⟨(passing pz n₀ 0).length - j - 1, by omega⟩
    rw [hm] at hgo
    refine wpAny_pyNext_genexpQ (P := fun n s₀ s₁ => n = 0 ∧ GS C I s₀ s₁) hA.hd hl hA.room hg hgs (hgo _ fun _ _ _ e => e) (fun v s₁ gs' hbare hv => ?_) (fun s₁ hp h' hk => ?_)
    · obtain ⟨⟨i, hi, hF⟩, S, hkap⟩ := hv
      have hidx : (passing pz n₀ 0).length - 1 - (m + 1 - 1) = j := by omega
      rw [hidx] at hi
      have hlt : g < s.gens.size := by
        rcases Nat.lt_or_ge g s.gens.size with h' | h'
        · exact h'
        · rw [Array.getElem?_eq_none h'] at hgs; cases hgs
      have kb₁ : KeepT hb s₁.heap := KeepT.over hkb S.hp hCb hIb
      refine hQ v _ ⟨i, hi, hF⟩ ⟨⟨isGen_keepsX hg (hkb.tab hT) S.hp (fun q => by rcases q with q | q; exact haC q; exact haI q), noLimit_keepsT hlim hT kb₁ fun q => q, kb₁, gs', setGen_get (Nat.lt_of_lt_of_le (by rw [setGen_size]; exact hlt) S.gz), fun s'' hal => ?_⟩,
        G.gen hg₀ (gr_of_gs S hbare) (hs₀ ▸ kb₁) S.os S.dr⟩ fun b o hb e => S.hp.kp b o e (tab_lt hT hbN hb) fun q => by rcases q with q | q; exact absurd hCN (by rw [← q]; exact Nat.not_lt.mpr hb); exact absurd hIN (by rw [← q]; exact Nat.not_lt.mpr hb)
      have e : (passing pz n₀ 0).length - (j + 1) = m := by omega
      rw [e]
      exact hkap s'' hal
    · exact absurd hp.1 (Nat.succ_ne_zero m)
  done := fun s Q E st hQ => by
    obtain ⟨⟨hg, hl, hkb, gs, hgs, hgo⟩, G⟩ := st
    rw [Nat.sub_self] at hgo
    refine wpAny_pyNext_genexpQ (P := fun n s₀ s₁ => n = 0 ∧ GS C I s₀ s₁) hA.hd hl hA.room hg hgs (hgo _ fun _ _ _ e => e) (fun v s₁ gs' _ hv => ?_) (fun s₁ hp h' hk => ?_)
    · obtain ⟨_, _, hkap⟩ := hv
      exact False.elim (hkap s₁ fun _ _ _ e => e)
    · obtain ⟨_, S⟩ := hp
      have kb₁ : KeepT hb h' := (KeepT.over hkb S.hp hCb hIb).trans (KeepT.of_keep hk)
      exact hQ _ (G.gen hg₀ (s' := { s₁.setGen g .finished with heap := h' }) (gr_of_gs S rfl) (hs₀ ▸ kb₁) S.os S.dr)
        fun b o hb e => hk b o (S.hp.kp b o e (tab_lt hT hbN hb) fun q => by rcases q with q | q; exact absurd hCN (by rw [← q]; exact Nat.not_lt.mpr hb); exact absurd hIN (by rw [← q]; exact Nat.not_lt.mpr hb))
  self := fun _ _ _ _ st hQ => wpAny_pyIter_gen st.1.1 hQ
end
end Mine

end
section
open PySem PySem.W PyProof.Rows PySem.Calls
set_option maxRecDepth 100000
namespace Mine
section
variable {w : World} {A : Around} {E : Value → Shared → Prop} {s : Shared} {I : Addr} {N n : Nat} {P : Nat → Value → Prop} {St : Nat → Shared → Prop} {Fin : Shared → Prop}
abbrev lsObj (xs : Array Value) (c : Nat) : Obj := { cls := .type "list", dict := none, data := .seq xs c, slots := #[] }

theorem loop_gen {R : Result → Shared → Prop} (W : WalksG w A.in1 I N n P St Fin) (hn : n ≤ sizeLine) {S : Nat} (hS : N ≤ S) (res : Value) :
    ∀ (k i : Nat) (s : Shared) (acc : Array Value) (c : Nat), n - i = k → i ≤ n → St i s → s.heap.get? S = some (lsObj acc c) → ItemsOf P acc i →
    (∀ s' acc' c', Fin s' → s'.heap.get? S = some (lsObj acc' c') → ItemsOf P acc' n → R (.ok (.ret res)) s') →
    codeAny (MM w) A (.builtin "list.extend.loop" ⟨[.ref S, .ref I, res], []⟩) R s := by
  intro k
  induction k with
  | zero =>
    intro i s acc c hk hi st hg hacc hR
    obtain rfl : i = n := by omega
    refine codeAny_builtin PySem.F.entry_extend_loop ?_
    rw [Around.under_plainId PySem.F.plain_extend_loop _]
    show wpAny _ A.in1 (pyNext (.ref I) >>= _) _ _ s
    exact wpAny_bind (W.done s _ _ st fun s' hf hk' => wpAny_pure (hR s' acc c hf (hk' S _ hS hg) hacc))
  | succ k ih =>
    intro i s acc c hk hi st hg hacc hR
    have hlt : i < n := by omega
    refine codeAny_builtin PySem.F.entry_extend_loop ?_
    rw [Around.under_plainId PySem.F.plain_extend_loop _]
    show wpAny _ A.in1 (pyNext (.ref I) >>= _) _ _ s
    refine wpAny_bind (W.item i s _ _ hlt st fun v s' hv st' hk' => ?_)
    have hg' := hk' S _ hS hg
    show wpAny _ A.in1 (updateSeq S (·.push v) >>= _) _ _ _
    refine wpAny_bind (wpAny_updateSeq hg' rfl (wpAny_pure ⟨plainId_quiet PySem.F.plain_extend_loop _, ih (i + 1) _ (acc.push v) _ (by omega) hlt (W.frame _ s' _ st' fun b hb o e => ?_) (Heap.get?_update_self _ hg' rfl) (hacc.push hv) hR⟩)
      (by rw [hacc.1]; omega) (by show (acc.push v).size ≤ sizeLine + 1; rw [Array.size_push, hacc.1]; omega))
    exact (Heap.get?_update_other _ _ (Nat.ne_of_gt (Nat.lt_of_lt_of_le hb hS))).trans e

theorem collect_gen {Q : List Value → Shared → Prop} (W : WalksG w A.in1 I N n P St Fin) (st : St 0 s) (hN : N ≤ s.heap.objs.size) (hI : I < N) (hn : n ≤ sizeLine)
    (hQ : ∀ s' acc, Fin s' → ItemsOf P acc n → Q acc.toList s') : wpAny (MM w) A (collect (.ref I)) Q E s := by
  have hSI : s.heap.objs.size ≠ I := Nat.ne_of_gt (Nat.lt_of_lt_of_le hI hN)
  have st₁ := W.frame 0 s (s.heap.push (lsObj #[] 0)) st fun b _ o e => Heap.get?_push_of_some _ e
  have g₁ : (s.heap.push (lsObj #[] 0)).get? s.heap.objs.size = some (lsObj #[] 0) := Heap.get?_push_size _ rfl
  unfold collect
  refine wpAny_bind (wpAny_runValue (codeAny_builtin PySem.F.entry_proto_collect ?_))
  rw [Around.under_plainId PySem.F.plain_proto_collect _]
  show wpAny _ A.in1 (newList [] >>= fun l => again (.builtin "list.__iadd__" ⟨[l, .ref I], []⟩)) _ _ s
  refine wpAny_bind (wpAny_newObj_type (wpAny_pure ⟨plainId_quiet PySem.F.plain_list_iadd _, codeAny_builtin PySem.F.entry_list_iadd ?_⟩))
  rw [Around.under_plainId PySem.F.plain_list_iadd _]
  show wpAny _ A.in1 (Builtin.List.listExtendWith (.ref s.heap.objs.size) (.ref I) (.ref s.heap.objs.size)) _ _ _
  unfold Builtin.List.listExtendWith
  refine wpAny_bind (wpAny_typeOf (W.isGen 0 _ st₁) ?_)
  rw [if_neg (show ¬ ((Builtin.List.listSameRef (.ref s.heap.objs.size) (.ref I) || Value.type "generator" == Value.type "list" || Value.type "generator" == Value.type "tuple") = true) by
    rw [show Builtin.List.listSameRef (.ref s.heap.objs.size) (.ref I) = false by simp [Builtin.List.listSameRef, hSI]]; exact Bool.false_ne_true)]
  refine wpAny_bind (W.self 0 _ _ _ st₁ ?_)
  refine wpAny_bind (wpAny_holding ?_)
  unfold Builtin.List.listLengthHint
  refine wpAny_bind (wpAny_specialOf (W.isGen 0 _ st₁) PySem.F.gen_no_len ?_)
  show wpAny _ A.in1 (specialOf (Value.ref I) (Str.ofString "__length_hint__") >>= _) _ _ _
  refine wpAny_bind (wpAny_specialOf (W.isGen 0 _ st₁) PySem.F.gen_no_hint ?_)
  refine wpAny_pure ?_
  show wpAny _ A.in1 (rule "list.extend.makes-room" >>= fun _ => Builtin.List.listTouch (.ref s.heap.objs.size) >>= fun _ =>
    again (.builtin "list.extend.loop" ⟨[.ref s.heap.objs.size, .ref I, .ref s.heap.objs.size], []⟩)) _ _ _
  refine wpAny_bind (wpAny_rule (wpAny_bind ?_))
  show wpAny _ A.in1 (updateSeq s.heap.objs.size (·.push .none) >>= fun _ => updateSeq s.heap.objs.size (·.pop)) _ _ _
  refine wpAny_bind (wpAny_updateSeq g₁ rfl ?_)
  have g₂ := Heap.get?_update_self (Obj.mapSeq (·.push Value.none)) g₁ rfl
  refine wpAny_updateSeq g₂ rfl ?_
  have g₃ := Heap.get?_update_self (Obj.mapSeq (·.pop)) g₂ rfl
  refine wpAny_pure ⟨plainId_quiet PySem.F.plain_extend_loop _, loop_gen W hn hN _ n 0 _ _ _ rfl (Nat.zero_le _) (W.frame 0 ({ s with heap := s.heap.push (lsObj #[] 0) } : Shared) _ st₁ fun b hb o e => ?_) g₃ (ItemsOf.nil P) fun s' acc' c' hf hg hacc => ?_⟩
  · have hne : s.heap.objs.size ≠ b := Nat.ne_of_gt (Nat.lt_of_lt_of_le hb hN)
    exact (Heap.get?_update_other _ _ hne).trans ((Heap.get?_update_other _ _ hne).trans e)
  · show wpAny _ A (load s.heap.objs.size >>= _) _ _ s'
    exact wpAny_bind (wpAny_load hg (wpAny_pure (hQ s' acc' hf hacc)))
end
end Mine

end
section
open PySem PySem.W PyProof.Rows PySem.Calls
set_option maxRecDepth 100000
namespace Mine
open PySem.Builtin.Str
/-- texts glued without anything between -/
def cat (l : List Str) : Str := ⟨(l.flatMap fun s => s.cps.toList).toArray⟩
theorem cat_nil : cat [] = ⟨#[]⟩ := rfl
theorem cat_cons (x : Str) (l : List Str) : cat (x :: l) = x ++ cat l := by
  show (⟨_⟩ : Str) = ⟨x.cps ++ (cat l).cps⟩
  simp [cat, List.flatMap_cons]
theorem join_cat : ∀ l : List Str, Str.join ⟨#[]⟩ l = cat l
  | [] => rfl
  | [x] => by
    rw [cat_cons, cat_nil]
    show x = ⟨x.cps ++ #[]⟩
    simp
  | x :: y :: l => by
    rw [cat_cons, ← join_cat (y :: l)]
    show (⟨(x.cps ++ #[]) ++ (Str.join ⟨#[]⟩ (y :: l)).cps⟩ : Str) = ⟨x.cps ++ (Str.join ⟨#[]⟩ (y :: l)).cps⟩
    simp
theorem glued_cat (l : List Str) : glued ⟨#[]⟩ l = cat l := (StrLaws.glued_eq_join _ l).trans (join_cat l)
theorem str_len (x : Str) : x.length = x.cps.size := rfl
theorem cat_length (l : List Str) : (cat l).length = (l.map (·.length)).sum := by
  induction l with
  | nil => rfl
  | cons x l ih =>
    rw [cat_cons, List.map_cons, List.sum_cons, ← ih]
    show (x.cps ++ (cat l).cps).size = x.cps.size + (cat l).cps.size
    rw [Array.size_append]

/-- a value that is a text, or an object of a str subclass -/
def Txt (h : Heap) (v : Value) (t : Str) : Prop := (∃ u, v = .str t u) ∨ ∃ k, Term h v 415 t k
theorem Txt.keepsT {h h' : Heap} {v t} (x : Txt h v t) (T : Tab h) (k : KeepT h h') : Txt h' v t := by
  rcases x with x | ⟨q, x⟩
  · exact .inl x
  · exact .inr ⟨q, x.keepsT T k⟩
theorem Txt.keeps {h h' : Heap} {v t} (x : Txt h v t) (k : Keep h h') : Txt h' v t := by
  rcases x with x | ⟨q, x⟩
  · exact .inl x
  · exact .inr ⟨q, x.keeps k⟩
theorem looks_asStr {M : Model} {h : Heap} {v : Value} {t : Str} (x : Txt h v t) : Looks M h (asStr? v) (some t) := by
  rcases x with ⟨u, rfl⟩ | ⟨k, a, d, tk, es, n, tk', rfl, e1, _, _⟩
  · exact .now
  · exact (Looks.ld e1).andThen .now

theorem looks_joinLoop {M : Model} {h : Heap} : ∀ (l : List (Value × Str)) (k : Nat) (acc : Array Str), (∀ p ∈ l, Txt h p.1 p.2) → Looks M h (forIn ((l.map (·.1)).zipIdx k) acc joinBody) (acc ++ (l.map (·.2)).toArray)
  | [], k, acc, _ => by
    simp only [List.map_nil, List.zipIdx_nil, List.forIn_nil, Array.append_empty]
    exact .now
  | p :: l, k, acc, hl => by
    rw [List.map_cons, List.zipIdx_cons, List.forIn_cons]
    have ih := looks_joinLoop (M := M) l (k + 1) (acc.push p.2) fun q hq => hl q (List.mem_cons_of_mem _ hq)
    have e : acc ++ ((p :: l).map (·.2)).toArray = acc.push p.2 ++ (l.map (·.2)).toArray := by simp
    rw [e]
    refine Looks.andThen (a := ForInStep.yield (acc.push p.2)) ?_ ih
    exact (looks_asStr (hl p (List.mem_cons_self ..))).andThen .now

section
variable {w : World} {A : Around} {E : Value → Shared → Prop} {s : Shared}
theorem wp_retStr {y : Str} {P : Value → Shared → Prop} (hy : y.length ≤ sizeLine) (hP : P (.str y s.toks) { s with toks := s.toks + 1 }) : Rets w A (retStr y) s P :=
  wpAny_bind (wpAny_mkStr (wpAny_pure ⟨_, rfl, hP⟩) hy)

theorem join_tail {l : List (Value × Str)} {P : Value → Shared → Prop} (hl : ∀ p ∈ l, Txt s.heap p.1 p.2) (hz : (cat (l.map (·.2))).length ≤ sizeLine)
    (hP : ∀ u tk, s.toks ≤ tk → P (.str (cat (l.map (·.2))) u) { s with toks := tk }) : Rets w A (joinTail ⟨#[]⟩ (l.map (·.1))) s P := by
  have rest : Rets w A (joinRest ⟨#[]⟩ (l.map (·.1))) s P := by
    unfold joinRest
    refine wpAny_bind (looks_joinLoop (M := MM w) l 0 #[] hl A _ _ s (fun _ _ e => e) ?_)
    have ht : tooLong ((#[] ++ (l.map fun (p : Value × Str) => p.2).toArray).foldl (fun (n : Nat) (x : Str) => n + x.length + (⟨#[]⟩ : Str).length) 0) = false := by
      rw [Array.empty_append, StrLaws.joinTotal]
      rw [cat_length] at hz
      show decide (_ > sizeLine) = false
      refine decide_eq_false ?_
      show ¬ (_ + _ * 0 > sizeLine)
      rw [Nat.mul_zero, Nat.add_zero]
      exact Nat.not_lt.mpr hz
    rw [ht]
    have eg : glued ⟨#[]⟩ (#[] ++ (l.map fun (p : Value × Str) => p.2).toArray).toList = cat (l.map (·.2)) := by rw [Array.empty_append, glued_cat]
    rw [eg]
    exact wp_retStr hz (hP _ _ (Nat.le_succ _))
  match l, rest with
  | [], rest => exact rest
  | [p], rest =>
    show Rets w A (if isExactStr p.1 = true then _ else _) s P
    split
    · rename_i he
      rcases hl p (List.mem_cons_self ..) with ⟨u, e⟩ | ⟨k, a, d, tk, es, n, tk', e, _⟩
      · have hc : cat ([p].map (·.2)) = p.2 := by
          rw [List.map_cons, List.map_nil, cat_cons, cat_nil]
          show (⟨p.2.cps ++ #[]⟩ : Str) = p.2
          simp
        refine wpAny_bind (wpAny_rule (wpAny_pure ⟨_, rfl, ?_⟩))
        show P p.1 s
        rw [e, ← hc]
        exact hP u _ (Nat.le_refl _)
      · rw [e] at he; cases he
    · exact rest
  | p :: q :: r, rest => exact rest
end
end Mine

end
section
open PySem PySem.W PyProof.Rows PySem.Calls
set_option maxRecDepth 100000
namespace Mine
theorem tab_ne {c P c' P' : Addr} (h : (c, P) ∈ tabL) (h' : (c', P') ∈ tabL) : c' ≠ P ∧ (P' = P → c' = c) := by
  simp only [tabL, List.mem_cons, Prod.mk.injEq, List.mem_nil_iff, or_false] at h h'
  rcases h with ⟨rfl, rfl⟩ | ⟨rfl, rfl⟩ | ⟨rfl, rfl⟩ | ⟨rfl, rfl⟩ <;> rcases h' with ⟨rfl, rfl⟩ | ⟨rfl, rfl⟩ | ⟨rfl, rfl⟩ | ⟨rfl, rfl⟩ <;> exact ⟨by decide, by decide⟩
theorem tab_mem {c P : Addr} (h : (c, P) ∈ tabL) : P ∈ tabA := by
  simp only [tabL, List.mem_cons, Prod.mk.injEq, List.mem_nil_iff, or_false] at h
  rcases h with ⟨rfl, rfl⟩ | ⟨rfl, rfl⟩ | ⟨rfl, rfl⟩ | ⟨rfl, rfl⟩ <;> decide

section
variable {w : World} {A : Around} {E : Value → Shared → Prop} {s : Shared}
theorem gen_code {env : Env} {c P : Addr} {pos : Pos} {qn : Str} {scope : Scope} {Q : Value → Shared → Prop} (hm : (c, P) ∈ tabL) (hc : env.code = .ref c) (T : Tab s.heap)
    (hQ : ∀ code h' tk, KeepT s.heap h' → s.heap.objs.size ≤ h'.objs.size → Q code { s with heap := h', toks := tk }) : wpAny (MM w) A (genexprCode env pos qn scope) Q E s := by
  obtain ⟨ps, ok, tab⟩ := T.at hm
  cases hf : codeAmong pos ps.toList with
  | some c' => exact wpAny_genexprCode_hit hc ok hf (hQ c' s.heap s.toks (KeepX.refl _ _) (Nat.le_refl _))
  | none =>
    refine wpAny_genexprCodeX hc ok tab hf fun c' h' tk hx h1 h2 hcode _ htab _ => hQ _ h' tk ⟨fun b o e n _ => hx b o (fun q => n (q ▸ tab_mem hm)) e, fun c₂ P₂ hm₂ ps₂ ok₂ tab₂ => ?_⟩ (Nat.le_trans h1 (Nat.le_of_lt h2))
    obtain ⟨n1, n2⟩ := tab_ne hm hm₂
    by_cases hP : P₂ = P
    · obtain rfl := n2 hP
      subst hP
      have e : ps₂ = ps := by
        have := Option.some.inj (tab₂.2.symm.trans tab.2)
        injection this with _ _ q
        injection q
      subst e
      exact ⟨_, hcode, htab⟩
    · exact ⟨#[], by rw [Array.append_empty]; exact ok₂.extBut hx n1 hP, by rw [Array.append_empty]; exact tab₂.extBut hx n1 hP⟩

theorem builtins_for {running : Addr} {Q : Addr → Shared → Prop} (B : Bs w s.heap) (q : Q builtinsNs s) : wpAny (MM w) A (builtinsFor 3 running) Q E s :=
  (look B (t := builtinsFor 3 running) (by kernel_rfl)).here q

/-- a generator expression over an object of a list subclass -/
theorem gen_exp {A' : Around} {env : Env} {elt iter : Expr} {x : Str} {px : Pos} {ifs : List Expr} {scope : Scope} {pos : Pos} {c P a C d : Addr} {ep : Nat} {xs : List Value} {nA : Nat} {pz : Nat → Bool} {F : Nat → Value → Prop} {Q : Value → Shared → Prop}
    (hm : (c, P) ∈ tabL) (hc : env.code = .ref c) (hg : env.globals = 3) (B : Bs w s.heap) (hA : A.depth < recursionLimit) (hA' : Small A' (nA + 3))
    (hl : mroIn (KK w) C (.type "list") = some true) (hf : findIn (KK w) (.ref C) "__iter__" = some (some (.builtin "list.__iter__")))
    (ha : s.heap.get? a = some (tlObj C d xs.toArray ep))
    (hiter : ∀ (Q' : Value → Shared → Prop) E', Q' (.ref a) s → wpAny (MM w) A (eval iter env) Q' E' s)
    (hco : scope.isCoroutine = false) (hclos : closureFor scope env = pure []) (hcell : ∀ y ∈ scope.names, y.2 ≠ .cell) (h0 : scope.names.lookup (".0" : Str) = some NameKind.local) (hx : scope.names.lookup x = some .local) (hkind : scope.kind = .function)
    (hs : ∀ x, genFold iter env x = pure x)
    (G : ∀ (D : Addr) (code : Value), s.heap.objs.size ≤ D → GenEl w s.heap nA (genEnv scope [] D code builtinsNs env) x ifs elt xs pz F)
    (hQ : ∀ (g : Addr) (N : Nat) (s' : Shared) (St : Nat → Shared → Prop), WalksG w A' g N (passing pz xs.length 0).length (fun j y => ∃ i, (passing pz xs.length 0)[j]? = some i ∧ F i y) St (Grown s) → St 0 s' → N ≤ s'.heap.objs.size → g < N → Q (.ref g) s') :
    wpAny (MM w) A (eval (.GeneratorExp elt [⟨.Name x px, iter, ifs, 0⟩] scope pos) env) Q E s := by
  refine wpAny_GeneratorExp_make hco hclos hcell h0 hkind hA (hiter _ _ (pyIter_inst B ha rfl hl hf ⟨B.lim.push _, gen_code hm hc (B.tab.keeps fun _ _ e => Heap.get?_push_of_some _ e) fun code h₃ tk k₃ z₃ => ?_⟩)) hs
  have k₁ : Keep s.heap (s.heap.push (liObj a 0)) := fun b o e => Heap.get?_push_of_some _ e
  have kk : KeepT s.heap h₃ := (KeepT.of_keep k₁).trans k₃
  have B₃ : Bs w h₃ := B.keepsT kk
  rw [hg]
  refine builtins_for B₃ ?_
  intro h' n' e'
  dsimp only at k₃ z₃ n' e' ⊢
  rw [Heap.size_push] at z₃
  have hz : h'.objs.size = h₃.objs.size + 1 := by rw [e'.1, Heap.size_push]
  have k₄ : Keep h₃ h' := fun b o e => (e'.2 b (ne_of_get e (Nat.le_refl _))).trans (Heap.get?_push_of_some _ e)
  generalize hgo : ({ cls := .type "generator", data := .fields #[.int s.gens.size 0, .str "<genexpr>" (tk + 1), .str (env.qual ++ "<genexpr>") (tk + 1 + 1)] } : Obj) = go
  have k₅ : Keep h' (h'.push go) := fun b o e => Heap.get?_push_of_some _ e
  have kb : KeepT s.heap (h'.push go) := (kk.trans (KeepT.of_keep k₄)).trans (KeepT.of_keep k₅)
  have hI : h₃.get? s.heap.objs.size = some (liObj a 0) := KeepT.get k₃ (B.tab.keeps k₁) (Heap.get?_push_size _ rfl) (.inl fun z => by cases z)
  have GE := G h₃.objs.size code (by omega)
  have hxe : (genEnv scope [] h₃.objs.size code builtinsNs env).kindOf x = some .local := hx
  have hpe : ((genEnv scope [] h₃.objs.size code builtinsNs env).scope.kind == .class || ((genEnv scope [] h₃.objs.size code builtinsNs env).scope.kind == .module && (genEnv scope [] h₃.objs.size code builtinsNs env).locals != (genEnv scope [] h₃.objs.size code builtinsNs env).globals)) = false := by
    simp [genEnv, hkind]
  have hseq : IsSeq s.heap a xs := ⟨_, _, ha, rfl⟩
  have W := walks_gen (w := w) (pz := pz) (F := F) (hb := s.heap) (C := h₃.objs.size) (I := s.heap.objs.size) (N := h₃.objs.size + 2) (g := s.gens.size) (n₀ := xs.length) (a := h'.objs.size) (A := A') (s₀ := s) B.tab (hA'.weaken (by omega))
    (by rw [hz]; exact Nat.succ_ne_self _) (by rw [hz]; exact Nat.ne_of_gt (by omega)) (by rw [hz]; exact Nat.lt_succ_self _) (by show (h₃.objs.size : Nat) < h₃.objs.size + 2; omega) (by show (s.heap.objs.size : Nat) < h₃.objs.size + 2; omega) (by show (s.heap.objs.size : Nat) ≤ h₃.objs.size; omega) (Nat.le_refl _) (by omega) B.lim rfl (Nat.le_refl _)
  refine hQ h'.objs.size (h₃.objs.size + 2) _ _ W ⟨⟨⟨_, _, _, Heap.get?_push_size _ (by rw [← hgo]; rfl), by rw [← hgo], by rw [← hgo], by rw [← hgo]⟩, (B.keepsT kb).lim, kb, _, Array.getElem?_push_size .., fun s'' hal => ?_⟩, ?_⟩ (by rw [Heap.size_push, hz]; exact Nat.le_refl _) (by rw [hz]; exact Nat.lt_succ_self _)
  · refine ⟨rfl, seg_start (cenv := genEnv scope [] h₃.objs.size code builtinsNs env) (nA := nA) (l := a) (hb := s.heap) B.tab (hA'.in1) rfl hxe hpe hco (by show (h₃.objs.size : Nat) ≠ s.heap.objs.size; omega) (by show (s.heap.objs.size : Nat) ≤ h₃.objs.size; omega) (Nat.le_refl _) (by show (h₃.objs.size : Nat) < h₃.objs.size + 2; omega) (by show (s.heap.objs.size : Nat) < h₃.objs.size + 2; omega) (by omega) hseq (Nat.le_of_ble_eq_true rfl) (Nat.le_of_ble_eq_true rfl) (Nat.le_of_ble_eq_true rfl) (Nat.le_of_ble_eq_true rfl) GE s'' s'' ⟨?_, ?_, ?_⟩ (GS.refl _ _ _)⟩
    · exact KeepT.below B.tab kb (by omega) hal
    · exact ⟨_, hal _ (by omega) _ (k₅ _ _ (k₄ _ _ hI)), rfl, rfl⟩
    · exact ⟨_, (n'.keeps k₅).at' fun o e => hal _ (by omega) o e⟩
  · refine ⟨kb, rfl, rfl, ?_, fun k hk => ?_, fun k hk v hv => ?_⟩
    · show s.gens.size ≤ (s.gens.push _).size
      rw [Array.size_push]; exact Nat.le_succ _
    · show (s.gens.push _)[k]? = s.gens[k]?
      rw [Array.getElem?_push, if_neg (Nat.ne_of_lt hk)]
    · replace hv : (s.gens.push _)[k]? = some v := hv
      rw [Array.getElem?_push] at hv
      split at hv
      · cases hv; rfl
      · rw [Array.getElem?_eq_none hk] at hv; cases hv
end
end Mine

end
section
open PySem PySem.W PyProof.Rows PySem.Calls
set_option maxRecDepth 100000
namespace Mine
open PySem.Builtin.Str
section
variable {w : World} {A : Around} {E : Value → Shared → Prop} {s : Shared}
/-- the items of a join, as a list of pairs -/
def Glues (s' : Shared) (acc : List Value) (P : Value → Shared → Prop) : Prop :=
  ∃ l : List (Value × Str), acc = l.map (·.1) ∧ (∀ p ∈ l, Txt s'.heap p.1 p.2) ∧ (cat (l.map (·.2))).length ≤ sizeLine ∧ ∀ u tk, P (.str (cat (l.map (·.2))) u) { s' with toks := tk }

theorem join_gen {g N n : Nat} {P : Nat → Value → Prop} {St : Nat → Shared → Prop} {Fin : Shared → Prop} {t : Tok} {Q : Value → Shared → Prop} (W : WalksG w A.in1.in1 g N n P St Fin) (st : St 0 s) (hN : N ≤ s.heap.objs.size) (hg : g < N) (hn : n ≤ sizeLine)
    (hQ : ∀ s' acc, Fin s' → ItemsOf P acc n → Glues s' acc.toList Q) : wpAny (MM w) A (call (.builtin "str.join") [.str ⟨#[]⟩ t, .ref g]) Q E s := by
  refine wp_call_of (does_builtin PySem.F.slot_str_join.plain PySem.F.entry_str_join (fun Q' E' q => PySem.F.slot_str_join.check _ _ _ _ _ _ _ _ (typeIs_str _ _ _) (PySem.F.args_str_join_2 _ _) q) ?_)
  unfold Rets
  rw [join_tree_other]
  refine wpAny_bind (wpAny_typeOf (W.isGen 0 s st) ?_)
  show wpAny _ A.in1 ((pyIter (.ref g)).tryCatch _ >>= fun it => collect it >>= fun items => joinTail ⟨#[]⟩ items) _ _ s
  refine wpAny_bind (wpAny_tryCatch (wpAny_of_in1 (W.self 0 s _ _ st ?_)))
  refine wpAny_bind (collect_gen W st hN hg hn fun s' acc hf hacc => ?_)
  obtain ⟨l, hl, ht, hz, hq⟩ := hQ s' acc hf hacc
  rw [hl]
  exact join_tail ht hz fun u tk _ => hq u tk

theorem join_list {a : Addr} {xs : Array Value} {t : Tok} {Q : Value → Shared → Prop} (hl : s.heap.IsList a xs) (hQ : Glues s xs.toList Q) : wpAny (MM w) A (call (.builtin "str.join") [.str ⟨#[]⟩ t, .ref a]) Q E s := by
  obtain ⟨o, ho, hc, n, hd⟩ := hl
  refine wp_call_of (does_builtin PySem.F.slot_str_join.plain PySem.F.entry_str_join (fun Q' E' q => PySem.F.slot_str_join.check _ _ _ _ _ _ _ _ (typeIs_str _ _ _) (PySem.F.args_str_join_2 _ _) q) ?_)
  unfold Rets
  rw [join_tree_other]
  refine wpAny_bind (wpAny_typeOf ⟨o, ho, hc⟩ ?_)
  show wpAny _ A.in1 (seqItems? (.ref a) >>= _) _ _ s
  refine wpAny_bind (wpAny_seqItems ho hd ?_)
  obtain ⟨l, hl, ht, hz, hq⟩ := hQ
  dsimp only
  rw [hl]
  exact join_tail ht hz fun u tk _ => hq u tk
end

/-- the passing places, where all pass -/
theorem passing_all (n : Nat) (pz : Nat → Bool) (h : ∀ i, i < n → pz i = true) : ∀ k i, n - i = k → i ≤ n → passing pz n i = (List.range' i k)
  | 0, i, hk, hi => by
    obtain rfl : i = n := by omega
    rw [passing_end]; rfl
  | k + 1, i, hk, hi => by
    rw [passing_true (by omega) (h i (by omega)), passing_all n pz h k (i + 1) (by omega) (by omega)]
    rfl
end Mine

end
section
open PySem PySem.W PyProof.Rows PySem.Calls
set_option maxRecDepth 100000
namespace Mine
theorem cat_filter (f : Nat → Str) (pz : Nat → Bool) : ∀ l : List Nat, (∀ i ∈ l, pz i = false → f i = ⟨#[]⟩) → cat ((l.filter pz).map f) = cat (l.map f)
  | [], _ => rfl
  | i :: l, h => by
    have ih := cat_filter f pz l fun j hj => h j (List.mem_cons_of_mem _ hj)
    cases hp : pz i with
    | true => rw [List.filter_cons_of_pos hp, List.map_cons, List.map_cons, cat_cons, cat_cons, ih]
    | false =>
      rw [List.filter_cons_of_neg (by rw [hp]; exact Bool.false_ne_true), List.map_cons, cat_cons, h i (List.mem_cons_self ..) hp, ih]
      show cat _ = (⟨#[] ++ (cat (l.map f)).cps⟩ : Str)
      simp

theorem range_getD (ts : List Str) : (List.range ts.length).map (fun i => ts.getD i ⟨#[]⟩) = ts := by
  apply List.ext_getElem
  · simp
  · intro i h1 h2
    simp at h1
    simp [List.getD_eq_getElem?_getD, h2]

/-- an item that is the i-th text -/
def IsItem (h : Heap) (ts : List Str) (i : Nat) (y : Value) : Prop := ∃ t, ts[i]? = some t ∧ Txt h y t

theorem glue_items {h : Heap} {ts : List Str} {pz : Nat → Bool} {acc : List Value} (hpz : ∀ i t, ts[i]? = some t → pz i = false → t = ⟨#[]⟩)
    (hacc : ItemsOf (fun j y => ∃ i, (passing pz ts.length 0)[j]? = some i ∧ IsItem h ts i y) acc.toArray (passing pz ts.length 0).length) :
    ∃ l : List (Value × Str), acc = l.map (·.1) ∧ (∀ p ∈ l, Txt h p.1 p.2) ∧ cat (l.map (·.2)) = cat ts := by
  have e0 : passing pz ts.length 0 = (List.range ts.length).filter pz := by unfold passing; rw [List.drop_zero]
  have hlen : acc.length = (passing pz ts.length 0).length := by have := hacc.1; rwa [List.size_toArray] at this
  refine ⟨acc.zip ((passing pz ts.length 0).map fun i => ts.getD i ⟨#[]⟩), ?_, ?_, ?_⟩
  · exact (List.map_fst_zip (Nat.le_of_eq (by rw [List.length_map, hlen]))).symm
  · intro p hp
    obtain ⟨j, hj, rfl⟩ := List.mem_iff_getElem.mp hp
    rw [List.length_zip, List.length_map, hlen, Nat.min_self] at hj
    rw [List.getElem_zip]
    obtain ⟨i, hi, t, ht, hy⟩ := hacc.2 j acc[j] (by rw [List.getElem?_toArray, List.getElem?_eq_getElem])
    have e1 : (passing pz ts.length 0)[j] = i := by
      have := List.getElem?_eq_getElem hj
      rw [this] at hi
      exact Option.some.inj hi
    simp only [List.getElem_map, e1]
    rw [List.getD_eq_getElem?_getD, ht]
    exact hy
  · have e2 : (acc.zip ((passing pz ts.length 0).map fun i => ts.getD i ⟨#[]⟩)).map (·.2) = (passing pz ts.length 0).map fun i => ts.getD i ⟨#[]⟩ := List.map_snd_zip (Nat.le_of_eq (by rw [List.length_map, hlen]))
    rw [e2, e0]
    rw [cat_filter, range_getD]
    intro i hi hp
    have hi' : i < ts.length := List.mem_range.mp hi
    rw [List.getD_eq_getElem?_getD, List.getElem?_eq_getElem hi']
    exact hpz i _ (List.getElem?_eq_getElem hi') hp
theorem passing_le (pz : Nat → Bool) (n : Nat) : (passing pz n 0).length ≤ n := by
  unfold passing
  rw [List.drop_zero]
  exact Nat.le_trans (List.length_filter_le _ _) (Nat.le_of_eq List.length_range)
end Mine

end
section
open PySem PySem.W PyProof.Rows PySem.Calls
set_option maxRecDepth 100000
namespace Mine
/-- the facts of a list subclass that a walk over it needs -/
structure Lst (w : World) (C : Addr) : Prop where
  list : mroIn (KK w) C (.type "list") = some true
  iter : findIn (KK w) (.ref C) "__iter__" = some (some (.builtin "list.__iter__"))


set_option maxHeartbeats 1000000 in
theorem str58 {w A s} {C x d : Addr} {ep n : Nat} {xs : List Value} {ts : List Str} {P : Value → Shared → Prop} (L : Lst w C) (hA : Small A (n + 12)) (B : Bs w s.heap) (hx : s.heap.get? x = some (tlObj C d xs.toArray ep)) (hlen : xs.length = ts.length)
    (hsh : ∀ (i : Nat) v t, xs[i]? = some v → ts[i]? = some t → Shows w s.heap n v t) (hz : (cat ts).length ≤ sizeLine) (hn : xs.length ≤ sizeLine) (hP : ∀ s' u, Grown s s' → P (.str (cat ts) u) s') : Does w A (.call (.ref 58) ⟨[.ref x], []⟩) s P := by
  have ho : (KK w).lookup 58 = some _ := rfl
  refine does_def [("self", .ref x)] (hA.weaken (by omega)) B ho (by kernel_rfl) (BindsTo.of_eq rfl) (by decide) rfl rfl rfl rfl fun h₁ F B₁ => ?_
  generalize hAd : A.deeper _ = A₁
  have hA₁ : Small A₁ (n + 11) := hAd ▸ hA.deeper
  clear hAd
  refine wpAny_execs_cons (wpAny_Return_some (MethodCall_ (wpAny_Constant_str (GM.join ?_))))
  refine callWith_builtin rfl (evalArgs_plain (spliced_cons ?_))
  have k₁ : KeepT s.heap h₁ := KeepT.of_keep F.keep
  refine gen_exp (A' := A₁.in1.in1) (c := 57) (P := 53) (nA := n + 4) (xs := xs) (pz := fun _ => true) (F := fun i y => IsItem h₁ ts i y) (by decide) rfl rfl B₁ hA₁.room ((hA₁.in1.in1).weaken (by omega)) L.list L.iter (F.keep _ _ hx)
    (fun Q' E' q => name_loc F.ns (v := .ref x) rfl q) rfl rfl (by decide) rfl rfl rfl (fun _ => rfl) (fun D code hD => ⟨?_, ?_⟩) ?_
  · intro A₂ E₂ i v s₂ m _ _ _ _ _
    exact wpAny_pure ⟨rfl, Grown.refl _⟩
  · intro A₂ E₂ i v s₂ m hA₂ hv _ hk hn₂ hm
    have B₂ := B₁.keepsT hk
    refine Call_ (name_str B₂ (callWith_type1 (name_loc hn₂ hm ?_)))
    have hi : i < ts.length := by
      rcases Nat.lt_or_ge i ts.length with h | h
      · exact h
      · rw [List.getElem?_eq_none (by omega)] at hv; cases hv
    exact hsh i v _ hv (List.getElem?_eq_getElem hi) A₂ s₂ _ _ (hA₂.weaken (by omega)) B₂ (k₁.trans hk) fun s' u G => ⟨⟨_, List.getElem?_eq_getElem hi, .inl ⟨u, rfl⟩⟩, G⟩
  · intro g N s' St W st hN hg
    refine spliced_nil ?_
    have W' := W
    refine join_gen W' st hN hg (Nat.le_trans (passing_le _ _) hn) fun s₂ acc G hacc => ?_
    rw [hlen] at hacc
    obtain ⟨l, e1, e2, e3⟩ := glue_items (h := h₁) (ts := ts) (pz := fun _ => true) (acc := acc.toList) (fun _ _ _ e => by cases e) hacc
    refine ⟨l, e1, fun p hp => (e2 p hp).keepsT B₁.tab G.hp, by rw [e3]; exact hz, fun u tk => ?_⟩
    rw [e3]
    refine hP _ _ ?_
    exact Grown.trans (Grown.of_heapT (s := s) k₁) (G.trans (Grown.of_heapT (KeepX.refl _ _)))
end Mine

end
section
open PySem PySem.W PyProof.Rows PySem.Calls
set_option maxRecDepth 100000
namespace Mine
open PySem.Builtin.Str
def put (c : Nat) (z : List Nat) (k : Nat) : List Nat := if k = c then z else [k]
theorem put_free (c : Nat) (z : List Nat) : ∀ l : List Nat, c ∉ l → l.flatMap (put c z) = l
  | [], _ => rfl
  | k :: r, h => by
    rw [List.flatMap_cons, put_free c z r fun m => h (List.mem_cons_of_mem _ m)]
    have h1 : k ≠ c := fun e => h (e ▸ List.mem_cons_self ..)
    simp [put, h1]
theorem put_join (c : Nat) (z : List Nat) : ∀ parts : List Str, (∀ p ∈ parts, c ∉ p.cps.toList) → (Str.join ⟨#[c]⟩ parts).cps.toList.flatMap (put c z) = (Str.join ⟨z.toArray⟩ parts).cps.toList
  | [], _ => rfl
  | [p], h => put_free c z _ (h p (List.mem_singleton.mpr rfl))
  | p :: q :: r, h => by
    have ih := put_join c z (q :: r) fun a ha => h a (List.mem_cons_of_mem _ ha)
    show (p ++ ⟨#[c]⟩ ++ Str.join ⟨#[c]⟩ (q :: r)).cps.toList.flatMap (put c z) = (p ++ ⟨z.toArray⟩ ++ Str.join ⟨z.toArray⟩ (q :: r)).cps.toList
    simp only [Str.cps_append, Array.toList_append, List.flatMap_append]
    rw [ih, put_free c z _ (h p (List.mem_cons_self ..))]
    simp [put]
theorem replace_put (x : Str) (c : Nat) (z : List Nat) : (Txt.replace x ⟨#[c]⟩ ⟨z.toArray⟩).cps.toList = x.cps.toList.flatMap (put c z) := by
  rw [StrLaws.replace_one, ← put_join c z _ (StrLaws.split_free x c), StrLaws.join_split]

/-- a sign as make_quoted_pairs writes it -/
def esc (k : Nat) : List Nat := if k = 34 ∨ k = 92 then [92, k] else [k]
def mq (x : Str) : Str := ⟨(x.cps.toList.flatMap esc).toArray⟩
theorem mq_replace (x : Str) : Txt.replace (Txt.replace x ⟨#[92]⟩ ⟨#[92, 92]⟩) ⟨#[34]⟩ ⟨#[92, 34]⟩ = mq x := by
  have e1 := replace_put x 92 [92, 92]
  have e2 := replace_put (Txt.replace x ⟨#[92]⟩ ⟨#[92, 92]⟩) 34 [92, 34]
  have e3 : (Txt.replace (Txt.replace x ⟨#[92]⟩ ⟨#[92, 92]⟩) ⟨#[34]⟩ ⟨#[92, 34]⟩).cps.toList = x.cps.toList.flatMap esc := by
    refine e2.trans ?_
    rw [show (Txt.replace x ⟨#[92]⟩ ⟨#[92, 92]⟩).cps.toList = _ from e1, List.flatMap_assoc]
    congr 1
    funext k
    by_cases h : k = 92
    · subst h; rfl
    · by_cases h' : k = 34
      · subst h'; rfl
      · simp [put, esc, h, h']
  have e4 : (Txt.replace (Txt.replace x ⟨#[92]⟩ ⟨#[92, 92]⟩) ⟨#[34]⟩ ⟨#[92, 34]⟩).cps = (mq x).cps := by
    rw [mq, ← e3]
  generalize Txt.replace (Txt.replace x ⟨#[92]⟩ ⟨#[92, 92]⟩) ⟨#[34]⟩ ⟨#[92, 34]⟩ = y at e4 ⊢
  cases y
  exact congrArg Str.mk e4
theorem flat_len (f : Nat → List Nat) (hf : ∀ k, (f k).length ≤ 2) : ∀ l : List Nat, (l.flatMap f).length ≤ 2 * l.length
  | [] => Nat.le_refl _
  | k :: r => by
    rw [List.flatMap_cons, List.length_append, List.length_cons]
    have := flat_len f hf r
    have := hf k
    omega
theorem mq_len (x : Str) : (mq x).length ≤ 2 * x.length := by
  have := flat_len esc (fun k => by unfold esc; split <;> simp) x.cps.toList
  show (x.cps.toList.flatMap esc).toArray.size ≤ 2 * x.cps.size
  rw [List.size_toArray]
  exact Nat.le_trans this (by rw [Array.length_toList]; exact Nat.le_refl _)
theorem rep1_len (x : Str) : (Txt.replace x ⟨#[92]⟩ ⟨#[92, 92]⟩).length ≤ 2 * x.length := by
  have h := flat_len (put 92 [92, 92]) (fun k => by unfold put; split <;> simp) x.cps.toList
  have e1 : (Txt.replace x ⟨#[92]⟩ ⟨#[92, 92]⟩).cps.toList = _ := replace_put x 92 [92, 92]
  rw [← e1, Array.length_toList, Array.length_toList] at h
  exact h

section
variable {w : World} {A : Around} {E : Value → Shared → Prop} {s : Shared}
theorem call_replace {x y z : Str} {t u v : Tok} {Q : Value → Shared → Prop} (hu : u ≠ 0) (hv : v ≠ 0) (huv : u ≠ v) (hyz : (y == z) = false) (hb : x.length + (x.length + 1) * z.length ≤ 16777216)
    (hq : ∀ t' k, s.toks ≤ k → Q (.str (Txt.replace x y z) t') { s with toks := k }) : wpAny (MM w) A (call (.builtin "str.replace") [.str x t, .str y u, .str z v]) Q E s := by
  have e : (2 : Nat) ^ 24 = 16777216 := by decide
  have hl : tooLong (x.length + (occurrences x y 0 x.length (x.length + 1)).length * z.length) = false := by
    have h1 := StrLaws.occ_length_le x y 0 x.length (x.length + 1)
    have h2 : (occurrences x y 0 x.length (x.length + 1)).length * z.length ≤ (x.length + 1) * z.length := Nat.mul_le_mul_right _ h1
    unfold tooLong sizeLine
    exact decide_eq_false (by omega)
  refine call_gives PySem.F.slot_str_replace (typeIs_str _ _ _) PySem.F.entry_str_replace (PySem.F.args_str_replace_3 _ _ _) (gives_str_replace x y z t u v fun _ => ⟨by simp [hu, hv], by simp [huv], hyz, hl⟩) ?_
  unfold Txt.replace at hq
  split
  · rename_i hc
    rw [if_pos hc] at hq
    exact hq t s.toks (Nat.le_refl _)
  · rename_i hc
    rw [if_neg hc] at hq
    exact ⟨fits_replaced y hb, hq _ _ (Nat.le_succ _)⟩
end
end Mine

end
section
open PySem PySem.W PyProof.Rows PySem.Calls
set_option maxRecDepth 100000
namespace Mine
section
variable {w : World} {A : Around} {s : Shared}
theorem fn28 {x : Str} {u : Tok} {P : Value → Shared → Prop} (hA : Small A 5) (B : Bs w s.heap) (hx : x.length ≤ 100000) (hP : ∀ s' u', Grown s s' → P (.str (mq x) u') s') : Does w A (.call (.ref 28) ⟨[.str x u], []⟩) s P := by
  have ho : (KK w).lookup 28 = some _ := rfl
  refine does_def [("value", .str x u)] (hA.weaken (by omega)) B ho (by kernel_rfl) (BindsTo.of_eq rfl) (by decide) rfl rfl rfl rfl fun h₁ F B₁ => ?_
  generalize A.deeper _ = A₁
  refine wpAny_execs_cons (wpAny_Return_some (MethodCall_ (MethodCall_ (Call_ (name_str B₁ (callWith_type1 (name_loc F.ns (v := .str x u) rfl (PySem.P.str_of_str (GM.replace (callWith_builtin rfl (evalArgs_plain (args_cons (wpAny_Constant_str (args_cons (wpAny_Constant_str (args_nil ?_))))))))))))))))
  have hl1 := rep1_len x
  have e92 : (⟨#[92, 92]⟩ : Str).length = 2 := rfl
  have e34 : (⟨#[92, 34]⟩ : Str).length = 2 := rfl
  refine call_replace (y := ⟨#[92]⟩) (z := ⟨#[92, 92]⟩) (Nat.succ_ne_zero _) (Nat.succ_ne_zero _) (Nat.ne_of_lt (Nat.lt_succ_self _)) (by decide) (by rw [e92]; omega) fun t' k hk => ?_
  have hk0 : k ≠ 0 := by have : 0 < k := Nat.lt_of_lt_of_le (Nat.succ_pos _) hk; omega
  refine GM.replace (callWith_builtin rfl (evalArgs_plain (args_cons (wpAny_Constant_str (args_cons (wpAny_Constant_str (args_nil ?_)))))))
  refine call_replace (y := ⟨#[34]⟩) (z := ⟨#[92, 34]⟩) hk0 (Nat.succ_ne_zero _) (Nat.ne_of_lt (Nat.lt_succ_self _)) (by decide) (by rw [e34]; omega) fun t'' k' hk' => ?_
  dsimp only
  rw [mq_replace]
  exact hP _ _ (Grown.of_heapT (s := s) (KeepT.of_keep F.keep))

theorem fn35 {x : Str} {u : Tok} {P : Value → Shared → Prop} (hA : Small A 7) (B : Bs w s.heap) (hx : x.length ≤ 100000) (hP : ∀ s' u', Grown s s' → P (.str (⟨#[34]⟩ ++ mq x ++ ⟨#[34]⟩) u') s') : Does w A (.call (.ref 35) ⟨[.str x u], []⟩) s P := by
  have ho : (KK w).lookup 35 = some _ := rfl
  refine does_def [("value", .str x u)] (hA.weaken (by omega)) B ho (by kernel_rfl) (BindsTo.of_eq rfl) (by decide) rfl rfl rfl rfl fun h₁ F B₁ => ?_
  generalize hAd : A.deeper _ = A₁
  have hA₁ : Small A₁ 6 := hAd ▸ hA.deeper
  clear hAd
  refine wpAny_execs_cons (wpAny_Assign_Name (Call_ (name_gl B₁ (v := .ref 28) (by kernel_rfl) (callWith_K B₁.K (by kernel_rfl) (args_cons (name_loc F.ns (v := .str x u) rfl (args_nil ⟨B₁.K, ?_⟩)))))))
  refine wp_call_of (fn28 (hA₁.weaken (by omega)) B₁ hx fun s₂ u' G => ?_)
  have n₂ := Ns.keepsT F.ns B₁.tab G.hp fun q => q
  have hm : (mq x).length ≤ 200000 := Nat.le_trans (mq_len x) (by omega)
  refine wpAny_storeName_local rfl n₂ fun h₃ n₃ e₃ => ?_
  dsimp only
  have k₃ : KeepT s.heap h₃ := ⟨fun b o e n _ => (e₃.2 b (ne_of_get e (Nat.le_refl _))).trans (G.hp.kp b o (F.keep _ _ e) n fun q => q), fun c P hm =>
    ((GrowsAt.of_keep F.keep).trans (G.hp.gr c P hm)).trans ((KeepX.ext (X := fun b => b = s.heap.objs.size) e₃.extBut rfl (B.tab.above (Nat.le_refl _))).gr c P hm)⟩
  refine wpAny_execs_cons (wpAny_Return_some (wpAny_JoinedStr ?_))
  refine wpAny_Constant_str ⟨_, _, rfl, (by decide), ?_⟩
  have hsz : (Str.empty ++ (⟨#[34]⟩ : Str) ++ mq x).length ≤ sizeLine := by
    show ((#[] ++ #[34]) ++ (mq x).cps).size ≤ sizeLine
    have : (mq x).cps.size ≤ 200000 := hm
    rw [Array.size_append, sizeLine_eq]; simp; omega
  have hsz2 : (Str.empty ++ (⟨#[34]⟩ : Str) ++ mq x ++ (⟨#[34]⟩ : Str)).length ≤ sizeLine := by
    show (((#[] ++ #[34]) ++ (mq x).cps) ++ #[34]).size ≤ sizeLine
    have : (mq x).cps.size ≤ 200000 := hm
    rw [Array.size_append, Array.size_append, sizeLine_eq]; simp; omega
  have e0 : Str.empty ++ (⟨#[34]⟩ : Str) ++ mq x ++ (⟨#[34]⟩ : Str) = ⟨#[34]⟩ ++ mq x ++ ⟨#[34]⟩ := by
    show (⟨((#[] ++ #[34]) ++ (mq x).cps) ++ #[34]⟩ : Str) = ⟨(#[34] ++ (mq x).cps) ++ #[34]⟩
    simp
  have GG : ∀ tk, Grown s { s₂ with heap := h₃, toks := tk } := fun tk =>
    ⟨k₃, G.os, G.dr, G.gz, G.go, G.gb⟩
  refine wpAny_FormattedValue_plain (name_loc n₃ (v := .str (mq x) u') rfl (wpAny_formatField_str ⟨_, _, rfl, hsz, ?_⟩ ⟨_, _, rfl, hsz, ?_⟩ (by rw [sizeLine_eq]; omega)))
  · refine wpAny_Constant_str ⟨_, _, rfl, hsz2, hsz2, ?_⟩
    dsimp only
    rw [show Str.empty ++ (Str.ofString "\"") ++ mq x ++ (Str.ofString "\"") = ⟨#[34]⟩ ++ mq x ++ ⟨#[34]⟩ from e0]
    exact hP _ _ (GG _)
  · refine wpAny_Constant_str ⟨_, _, rfl, hsz2, hsz2, ?_⟩
    dsimp only
    rw [show Str.empty ++ (Str.ofString "\"") ++ mq x ++ (Str.ofString "\"") = ⟨#[34]⟩ ++ mq x ++ ⟨#[34]⟩ from e0]
    exact hP _ _ (GG _)
end
end Mine

end
section
open PySem PySem.W PyProof.Rows PySem.Calls
set_option maxRecDepth 100000
namespace Mine
set_option maxHeartbeats 1000000 in
theorem val240 {w A s} {C x d : Addr} {ep n : Nat} {xs : List Value} {ts : List Str} {P : Value → Shared → Prop} (L : Lst w C) (hA : Small A (n + 12)) (B : Bs w s.heap) (hx : s.heap.get? x = some (tlObj C d xs.toArray ep)) (hlen : xs.length = ts.length)
    (hsh : ∀ (i : Nat) v t, xs[i]? = some v → ts[i]? = some t → Shows w s.heap n v t) (hz : (cat ts).length ≤ sizeLine) (hn : xs.length ≤ sizeLine) (hP : ∀ s' u, Grown s s' → P (.str (cat ts) u) s') : Does w A (.call (.ref 240) ⟨[.ref x], []⟩) s P := by
  have ho : (KK w).lookup 240 = some _ := rfl
  refine does_def [("self", .ref x)] (hA.weaken (by omega)) B ho (by kernel_rfl) (BindsTo.of_eq rfl) (by decide) rfl rfl rfl rfl fun h₁ F B₁ => ?_
  generalize hAd : A.deeper _ = A₁
  have hA₁ : Small A₁ (n + 11) := hAd ▸ hA.deeper
  clear hAd
  refine wpAny_execs_cons (wpAny_Return_some (MethodCall_ (wpAny_Constant_str (GM.join ?_))))
  refine callWith_builtin rfl (evalArgs_plain (spliced_cons ?_))
  have k₁ : KeepT s.heap h₁ := KeepT.of_keep F.keep
  refine gen_exp (A' := A₁.in1.in1) (c := 239) (P := 235) (nA := n + 4) (xs := xs) (pz := fun _ => true) (F := fun i y => IsItem h₁ ts i y) (by decide) rfl rfl B₁ hA₁.room ((hA₁.in1.in1).weaken (by omega)) L.list L.iter (F.keep _ _ hx)
    (fun Q' E' q => name_loc F.ns (v := .ref x) rfl q) rfl rfl (by decide) rfl rfl rfl (fun _ => rfl) (fun D code hD => ⟨?_, ?_⟩) ?_
  · intro A₂ E₂ i v s₂ m _ _ _ _ _
    exact wpAny_pure ⟨rfl, Grown.refl _⟩
  · intro A₂ E₂ i v s₂ m hA₂ hv _ hk hn₂ hm
    have B₂ := B₁.keepsT hk
    refine Call_ (name_str B₂ (callWith_type1 (name_loc hn₂ hm ?_)))
    have hi : i < ts.length := by
      rcases Nat.lt_or_ge i ts.length with h | h
      · exact h
      · rw [List.getElem?_eq_none (by omega)] at hv; cases hv
    exact hsh i v _ hv (List.getElem?_eq_getElem hi) A₂ s₂ _ _ (hA₂.weaken (by omega)) B₂ (k₁.trans hk) fun s' u G => ⟨⟨_, List.getElem?_eq_getElem hi, .inl ⟨u, rfl⟩⟩, G⟩
  · intro g N s' St W st hN hg
    refine spliced_nil ?_
    have W' := W
    refine join_gen W' st hN hg (Nat.le_trans (passing_le _ _) hn) fun s₂ acc G hacc => ?_
    rw [hlen] at hacc
    obtain ⟨l, e1, e2, e3⟩ := glue_items (h := h₁) (ts := ts) (pz := fun _ => true) (acc := acc.toList) (fun _ _ _ e => by cases e) hacc
    refine ⟨l, e1, fun p hp => (e2 p hp).keepsT B₁.tab G.hp, by rw [e3]; exact hz, fun u tk => ?_⟩
    rw [e3]
    refine hP _ _ ?_
    exact Grown.trans (Grown.of_heapT (s := s) k₁) (G.trans (Grown.of_heapT (KeepX.refl _ _)))
set_option maxHeartbeats 1000000 in
theorem str233 {w A s} {C x d : Addr} {ep n : Nat} {xs : List Value} {ts : List Str} {P : Value → Shared → Prop} (L : Lst w C) (hA : Small A (n + 12)) (B : Bs w s.heap) (hx : s.heap.get? x = some (tlObj C d xs.toArray ep)) (hlen : xs.length = ts.length)
    (hsh : ∀ (i : Nat) v t, xs[i]? = some v → ts[i]? = some t → Shows w s.heap n v t) (hz : (cat ts).length ≤ sizeLine) (hn : xs.length ≤ sizeLine) (hq : (cat ts).length ≤ 100000) (hP : ∀ s' u, Grown s s' → P (.str (⟨#[34]⟩ ++ mq (cat ts) ++ ⟨#[34]⟩) u) s') : Does w A (.call (.ref 233) ⟨[.ref x], []⟩) s P := by
  have ho : (KK w).lookup 233 = some _ := rfl
  refine does_def [("self", .ref x)] (hA.weaken (by omega)) B ho (by kernel_rfl) (BindsTo.of_eq rfl) (by decide) rfl rfl rfl rfl fun h₁ F B₁ => ?_
  generalize hAd : A.deeper _ = A₁
  have hA₁ : Small A₁ (n + 11) := hAd ▸ hA.deeper
  clear hAd
  refine wpAny_execs_cons (wpAny_Return_some (Call_ (name_gl B₁ (v := .ref 35) (by kernel_rfl) (callWith_K B₁.K (by kernel_rfl) (args_cons ?_)))))
  refine MethodCall_ (wpAny_Constant_str (GM.join ?_))
  refine callWith_builtin rfl (evalArgs_plain (spliced_cons ?_))
  have k₁ : KeepT s.heap h₁ := KeepT.of_keep F.keep
  refine gen_exp (A' := A₁.in1.in1) (c := 232) (P := 228) (nA := n + 4) (xs := xs) (pz := fun _ => true) (F := fun i y => IsItem h₁ ts i y) (by decide) rfl rfl B₁ hA₁.room ((hA₁.in1.in1).weaken (by omega)) L.list L.iter (F.keep _ _ hx)
    (fun Q' E' q => name_loc F.ns (v := .ref x) rfl q) rfl rfl (by decide) rfl rfl rfl (fun _ => rfl) (fun D code hD => ⟨?_, ?_⟩) ?_
  · intro A₂ E₂ i v s₂ m _ _ _ _ _
    exact wpAny_pure ⟨rfl, Grown.refl _⟩
  · intro A₂ E₂ i v s₂ m hA₂ hv _ hk hn₂ hm
    have B₂ := B₁.keepsT hk
    refine Call_ (name_str B₂ (callWith_type1 (name_loc hn₂ hm ?_)))
    have hi : i < ts.length := by
      rcases Nat.lt_or_ge i ts.length with h | h
      · exact h
      · rw [List.getElem?_eq_none (by omega)] at hv; cases hv
    exact hsh i v _ hv (List.getElem?_eq_getElem hi) A₂ s₂ _ _ (hA₂.weaken (by omega)) B₂ (k₁.trans hk) fun s' u G => ⟨⟨_, List.getElem?_eq_getElem hi, .inl ⟨u, rfl⟩⟩, G⟩
  · intro g N s' St W st hN hg
    refine spliced_nil ?_
    have W' := W
    refine join_gen W' st hN hg (Nat.le_trans (passing_le _ _) hn) fun s₂ acc G hacc => ?_
    rw [hlen] at hacc
    obtain ⟨l, e1, e2, e3⟩ := glue_items (h := h₁) (ts := ts) (pz := fun _ => true) (acc := acc.toList) (fun _ _ _ e => by cases e) hacc
    refine ⟨l, e1, fun p hp => (e2 p hp).keepsT B₁.tab G.hp, by rw [e3]; exact hz, fun u tk => ?_⟩
    rw [e3]
    have GG : Grown s { s₂ with toks := tk } := Grown.trans (Grown.of_heapT (s := s) k₁) (G.trans (Grown.of_heapT (KeepX.refl _ _)))
    have B₃ : Bs w s₂.heap := B.keepsT GG.hp
    refine args_nil ⟨B₃.K, wp_call_of (fn35 (hA₁.weaken (by omega)) (s := { s₂ with toks := tk }) B₃ hq fun s₄ u₄ G₄ => ?_)⟩
    exact hP _ _ (GG.trans G₄)
end Mine

end
section
open PySem PySem.W PyProof.Rows PySem.Calls
set_option maxRecDepth 100000
namespace Mine
theorem kind_strLen : builtinKind "str.__len__" = some .slot := by decide +kernel
theorem split_strLen : splitId "str.__len__" = some ("str", "__len__") := by decide +kernel
theorem kind_listLen : builtinKind "list.__len__" = some .slot := by decide +kernel
theorem split_listLen : splitId "list.__len__" = some ("list", "__len__") := by decide +kernel
section
variable {w : World} {A : Around} {s : Shared}
/-- the slot __len__ of a terminal, of a list -/
theorem len_term {x C d : Addr} {t : Str} {tk : Tok} {P : Value → Shared → Prop} (hx : s.heap.get? x = some (termObj C d t tk)) (B : Bs w s.heap) (hstr : mroIn (KK w) C (.type "str") = some true)
    (hP : P (.int t.length s.toks) { s with toks := s.toks + 1 }) : Does w A (.call (.builtin "str.__len__") ⟨[.ref x], []⟩) s P := by
  obtain ⟨hh, g, dr, tks, os⟩ := s
  dsimp only at B hx hP
  have t1 : Looks (MM w) hh (typeOf (.ref x)) (.ref C) := looks_type hx rfl
  have t2 : Looks (MM w) hh (isInstance (.ref x) (.type "str")) true := t1.andThen (looks_mroIn B.K hstr)
  refine does_builtin PySem.F.slot_str_len.plain PySem.F.entry_str_len (fun Q' E'' q' => @check_slot (MM w) _ _ _ "str.__len__" "str" "__len__" (.ref x) [] [] _ kind_strLen split_strLen t2 (PySem.F.args_str_len_1 _) q') ?_
  unfold Builtin.«str.__len__»
  repeat lk
  exact ⟨_, rfl, hP⟩
theorem len_tl {x C d : Addr} {xs : List Value} {ep : Nat} {P : Value → Shared → Prop} (hx : s.heap.get? x = some (tlObj C d xs.toArray ep)) (B : Bs w s.heap) (hl : mroIn (KK w) C (.type "list") = some true)
    (hP : P (.int xs.length s.toks) { s with toks := s.toks + 1 }) : Does w A (.call (.builtin "list.__len__") ⟨[.ref x], []⟩) s P := by
  obtain ⟨hh, g, dr, tks, os⟩ := s
  dsimp only at B hx hP
  have t1 : Looks (MM w) hh (typeOf (.ref x)) (.ref C) := looks_type hx rfl
  have t2 : Looks (MM w) hh (isInstance (.ref x) (.type "list")) true := t1.andThen (looks_mroIn B.K hl)
  refine does_builtin slot_list_len.plain entry_list_len (fun Q' E'' q' => @check_slot (MM w) _ _ _ "list.__len__" "list" "__len__" (.ref x) [] [] _ kind_listLen split_listLen t2 (args_list_len _) q') ?_
  unfold Builtin.«list.__len__»
  repeat lk
  exact ⟨_, rfl, by rw [List.size_toArray]; exact hP⟩

/-- the builtin len over an object whose class has __len__ as the slot id -/
theorem len_tree {x C : Addr} {id : String} {ox : Obj} {n : Nat} {P : Value → Shared → Prop} (B : Bs w s.heap) (hx : s.heap.get? x = some ox) (hc : ox.cls = .ref C) (hf : findIn (KK w) (.ref C) "__len__" = some (some (.builtin id)))
    (hb : bindSpecial (.builtin id) (.ref x) = pure (.builtin id, [.ref x])) (hn : n ≤ sizeLine)
    (hcall : ∀ (A : Around) (P' : Value → Shared → Prop), P' (.int n s.toks) { s with toks := s.toks + 1 } → Does w A (.call (.builtin id) ⟨[.ref x], []⟩) s P')
    (hP : P (.int n (s.toks + 1)) { s with toks := s.toks + 1 + 1 }) : Rets w A (Builtin.«len» ⟨[.ref x], []⟩) s P := by
  obtain ⟨hh, g, dr, tks, os⟩ := s
  dsimp only at B hx hP hcall
  have t1 : Looks (MM w) hh (typeOf (.ref x)) (.ref C) := looks_type hx hc
  have t3 := looks_findIn (M := MM w) B.K hf
  have t4 : Looks (MM w) hh (bindSpecial (.builtin id) (.ref x)) (.builtin id, [.ref x]) := Looks.of_pure hb
  have hc : ∀ {A' : Around} {Q' : Value → Shared → Prop} {E'}, Q' (.int n tks) ⟨hh, g, dr, tks + 1, os⟩ → wpAny (MM w) A' (call (.builtin id) ([Value.ref x] ++ [])) Q' E' ⟨hh, g, dr, tks, os⟩ := @fun A1 Q1 E1 q => wp_call_of (hcall A1 _ q)
  have h63 : (n : Int) < 2 ^ 63 := by rw [sizeLine_eq] at hn; omega
  have h0 : ¬ ((n : Int) < 0) := by omega
  have h2 : ¬ ((n : Int) ≥ 2 ^ 63) := by omega
  unfold Builtin.«len» callSpecial? specialOf
  repeat (first | (with_reducible refine hc ?_) | simp only [h0, h2, if_false] | lk)
  exact ⟨_, rfl, hP⟩

theorem truthy_ref {x C : Addr} {id : String} {ox : Obj} {n : Nat} {Q : Bool → Shared → Prop} {E : Value → Shared → Prop} (B : Bs w s.heap) (hx : s.heap.get? x = some ox) (hc : ox.cls = .ref C) (hf : findIn (KK w) (.ref C) "__len__" = some (some (.builtin id)))
    (hnb : findIn (KK w) (.ref C) "__bool__" = some none)
    (hb : bindSpecial (.builtin id) (.ref x) = pure (.builtin id, [.ref x])) (hn : n ≤ sizeLine)
    (hcall : ∀ (A : Around) (P' : Value → Shared → Prop), P' (.int n s.toks) { s with toks := s.toks + 1 } → Does w A (.call (.builtin id) ⟨[.ref x], []⟩) s P')
    (hQ : Q (decide (n ≠ 0)) { s with toks := s.toks + 1 + 1 }) : wpAny (MM w) A (truthy (.ref x)) Q E s := by
  have key : ∀ {Q' : Value → Shared → Prop} {E'}, Q' (.int n (s.toks + 1)) { s with toks := s.toks + 1 + 1 } → wpAny (MM w) A (runValue (.builtin "len" ⟨[.ref x], []⟩)) Q' E' s := @fun Q' E' q =>
    wp_runValue_of (does_builtin_at plain_len entry_len (len_tree B hx hc hf hb hn hcall q))
  have hd : ((n : Int) != 0) = decide (n ≠ 0) := by
    rcases Nat.eq_zero_or_pos n with e | e
    · subst e; rfl
    · rw [decide_eq_true (by omega), bne_iff_ne]; omega
  obtain ⟨hh, g, dr, tks, os⟩ := s
  dsimp only at B hx hcall hQ key
  have t1 : Looks (MM w) hh (typeOf (.ref x)) (.ref C) := looks_type hx hc
  have t3 := looks_findIn (M := MM w) B.K hf
  have t5 := looks_findIn (M := MM w) B.K hnb
  unfold truthy callSpecial? specialOf
  repeat (first | (with_reducible refine key ?_) | lk)
  rw [hd]
  exact hQ

/-- len(x) -/
theorem call_len {x C : Addr} {id : String} {ox : Obj} {n : Nat} {Q : Value → Shared → Prop} {E : Value → Shared → Prop} (B : Bs w s.heap) (hx : s.heap.get? x = some ox) (hc : ox.cls = .ref C) (hf : findIn (KK w) (.ref C) "__len__" = some (some (.builtin id)))
    (hb : bindSpecial (.builtin id) (.ref x) = pure (.builtin id, [.ref x])) (hn : n ≤ sizeLine)
    (hcall : ∀ (A : Around) (P' : Value → Shared → Prop), P' (.int n s.toks) { s with toks := s.toks + 1 } → Does w A (.call (.builtin id) ⟨[.ref x], []⟩) s P')
    (hQ : Q (.int n (s.toks + 1)) { s with toks := s.toks + 1 + 1 }) : wpAny (MM w) A (call (.builtin "len") [.ref x]) Q E s :=
  Calls.call_function_entry kind_len plain_len entry_len (args_len1 _) (wpAny_mono (len_tree B hx hc hf hb hn hcall (P := Q) hQ) (fun _ _ ⟨_, e, p⟩ => e ▸ ⟨_, rfl, p⟩) fun _ _ f => f.elim)

/-- the truth of a text -/
theorem truthy_txt {v : Value} {t : Str} {Q : Bool → Shared → Prop} {E : Value → Shared → Prop} (B : Bs w s.heap) (hv : Txt s.heap v t) (ht : t.length ≤ sizeLine) (hQ : ∀ tk, Q (decide (t.length ≠ 0)) { s with toks := tk }) : wpAny (MM w) A (truthy v) Q E s := by
  rcases hv with ⟨u, rfl⟩ | ⟨k, a, d, tk, es, n, tk', rfl, e1, _, _⟩
  · refine PySem.P.truthy_str (by rw [sizeLine_eq] at ht; omega) ?_
    have hd : ((t.length : Int) != 0) = decide (t.length ≠ 0) := by
      rcases Nat.eq_zero_or_pos t.length with e | e
      · rw [e]; rfl
      · rw [decide_eq_true (by omega), bne_iff_ne]; omega
    rw [hd]
    exact hQ _
  · exact truthy_ref B e1 rfl (by kernel_rfl) (by kernel_rfl) (PySem.F.slot_str_len.bind _) ht (fun A' P' p => len_term e1 B (by kernel_rfl) p) (hQ _)
end
end Mine

end
section
open PySem PySem.W PyProof.Rows PySem.Calls
set_option maxRecDepth 100000
namespace Mine
theorem slot_lga : PySem.Slot "list" "__getattribute__" "list.__getattribute__" :=
  .of (owner := "list") (n := "__getattribute__") (by rw [typeLookup_type, builtinLookup_eq_fast]; kernel_rfl) (by decide +kernel) (by decide +kernel) (by decide +kernel)
    (by first | exact .inl (by decide +kernel) | exact .inr (by decide +kernel)) (by rw [isSubtype_type]; kernel_rfl)
theorem entry_lga : entryFor table "list.__getattribute__" = some Builtin.«object.__getattribute__» := entryFor_alias (id' := "object.__getattribute__") (by rw [fastTable_eq_tree]; kernel_rfl) rfl (by rw [PySem.W.S.canonicalZ_eq]; decide +kernel) (by rw [fastTable_eq_tree]; kernel_rfl)
theorem args_lga (a b : Value) : argsOk "list.__getattribute__" ⟨[a, b], []⟩ := by unfold argsOk; kernel_rfl
theorem kind_lga : builtinKind "list.__getattribute__" = some .slot := by decide +kernel
theorem split_lga : splitId "list.__getattribute__" = some ("list", "__getattribute__") := by decide +kernel
/-- the facts of a list subclass for its attributes -/
structure LstG (w : World) (C : Addr) : Prop where
  ga : findIn (KK w) (.ref C) "__getattribute__" = some (some (.builtin "list.__getattribute__"))
  no : findIn (KK w) (.ref C) "__getattr__" = some none
  list : mroIn (KK w) C (.type "list") = some true
  hd : hasDictIn (KK w) C = true
section
variable {w : World} {A : Around} {s : Shared} {E : Value → Shared → Prop}
theorem getL_open {x C : Addr} {ox : Obj} {od : Option Obj} {name : Str} {expr : Bool} {Q : Value → Shared → Prop} (L : LstG w C) (B : Bs w s.heap) (I : InstAt s.heap x ox C od)
    (h : Rets w A.in1 (Builtin.«object.__getattribute__» ⟨[.ref x, .str name s.toks], []⟩) { s with toks := s.toks + 1 } (fun v s' => handedIn v = true ∧ Q v s')) : wpAny (MM w) A (getAttr (.ref x) name expr) Q E s := by
  obtain ⟨hh, g, dr, t, os⟩ := s
  dsimp only at B I h
  have L0 : Looks (MM w) hh (typeOf (.ref x)) (.ref C) := I.type
  have L1 := looks_findIn (M := MM w) B.K L.ga
  have L2 := looks_findIn (M := MM w) B.K L.no
  have L3 : Looks (MM w) hh (isInstance (.ref x) (.type "list")) true := L0.andThen (looks_mroIn B.K L.list)
  unfold getAttr getAttrBy
  refine wpAny_bind (wpAny_mkText (wpAny_holding (wpAny_bind (L0.at (wpAny_bind (L1.at ?_))))))
  dsimp only
  rw [show (onTheHeap (.ref C) && Value.builtin "list.__getattribute__" == Value.builtin "object.__getattribute__") = false from by rw [show (Value.builtin "list.__getattribute__" == Value.builtin "object.__getattribute__") = false from by decide +kernel, Bool.and_false], if_neg (by decide)]
  unfold getAttrByItsOwn hookBefore callGetattribute boundAndCalled
  refine wpAny_bind (show wpAny _ _ (typeLookup (.ref C) "__getattr__") _ _ _ from L2.at ?_)
  refine wpAny_bind (wpAny_attempt (wpAny_holding ?_))
  rw [show (expr && onTheHeap (Value.builtin "list.__getattribute__")) = false from Bool.and_false _, if_neg (by decide)]
  rw [slot_lga.bind]
  refine wpAny_bind (wpAny_pure ?_)
  show wpAny _ _ (call (.builtin "list.__getattribute__") [.ref x, .str name t]) _ _ _
  refine wp_call_of (does_builtin slot_lga.plain entry_lga (fun Q' E'' q' => @check_slot (MM w) _ _ _ "list.__getattribute__" "list" "__getattribute__" (.ref x) [.str name t] [] _ kind_lga split_lga L3 (args_lga _ _) q') (wpAny_mono h (fun fin s' z => ?_) fun _ _ z => z))
  obtain ⟨v, e, a, b⟩ := z
  refine ⟨v, e, ?_⟩
  show wpAny _ _ (handedOut v) _ _ _
  rw [handedOut_of a]
  exact wpAny_pure b

theorem getL_value {x C : Addr} {ox : Obj} {od : Option Obj} {name : Str} {v : Value} {expr : Bool} {Q : Value → Shared → Prop} (L : LstG w C) (B : Bs w s.heap) (I : InstAt s.heap x ox C od)
    (hf : findObj (KK w) C od name = some (.value v)) (hh : handedIn v = true) (h : Q v { s with toks := s.toks + 1 }) : wpAny (MM w) A (getAttr (.ref x) name expr) Q E s := by
  refine getL_open L B I ?_
  obtain ⟨hh', g, d, t, os⟩ := s
  have L0 := I.type (M := MM w)
  have L1 := looks_find (M := MM w) B.K I hf
  dsimp only at L0 L1
  unfold Builtin.«object.__getattribute__»
  repeat lk
  exact ⟨_, rfl, hh, h⟩

theorem getL_bind {x C : Addr} {ox : Obj} {od : Option Obj} {name : Str} {g a : Value} {expr : Bool} {Q : Value → Shared → Prop} {P : Value → Shared → Prop} (L : LstG w C) (B : Bs w s.heap) (I : InstAt s.heap x ox C od)
    (hf : findObj (KK w) C od name = some (.bind g a)) (h : Does w A.in1 (.call g ⟨[a, .ref x, .ref C], []⟩) { s with toks := s.toks + 1 } P) (hP : ∀ v s', P v s' → handedIn v = true ∧ Q v s') : wpAny (MM w) A (getAttr (.ref x) name expr) Q E s := by
  refine getL_open L B I ?_
  obtain ⟨hh', gg, d, t, os⟩ := s
  have L0 := I.type (M := MM w)
  have L1 := looks_find (M := MM w) B.K I hf
  dsimp only at L0 L1 h
  have hc : ∀ {Q' : Value → Shared → Prop} {E'}, (∀ v s', P v s' → Q' v s') → wpAny (MM w) A.in1 (call g [a, .ref x, .ref C]) Q' E' ⟨hh', gg, d, t + 1, os⟩ := fun q => wp_call_of (Does.mono h q)
  unfold Builtin.«object.__getattribute__»
  repeat (first | (with_reducible refine hc ?_) | lk)
  exact fun v s' p => wpAny_pure ⟨v, rfl, hP v s' p⟩
end
end Mine

end
section
open PySem PySem.W PyProof.Rows PySem.Calls
set_option maxRecDepth 100000
namespace Mine
structure PropC (w : World) (C : Addr) (name : Str) (p f : Addr) : Prop where
  fd : findIn (KK w) (.ref C) name = some (some (.ref p))
  ng : specialIn (KK w) (.ref p) "__get__" = some (some (.builtin "property.__get__"))
  tk : takesIn (KK w) (.ref p) = some true
  rc : (recIn (KK w) p "property").bind List.head? = some (.ref f)
theorem PropC.rec' {w : World} {C : Addr} {name : Str} {p f : Addr} (x : PropC w C name p f) : ∃ rest, recIn (KK w) p "property" = some (.ref f :: rest) := by
  have h := x.rc
  cases e : recIn (KK w) p "property" with
  | none => rw [e] at h; cases h
  | some l =>
    rw [e] at h
    cases l with
    | nil => cases h
    | cons a r => cases h; exact ⟨r, rfl⟩
theorem pc_181 (w : World) : PropC w 181 "value" 158 157 := ⟨by kernel_rfl, by kernel_rfl, by kernel_rfl, by kernel_rfl⟩
theorem pc_244 (w : World) : PropC w 244 "value" 241 240 := ⟨by kernel_rfl, by kernel_rfl, by kernel_rfl, by kernel_rfl⟩
theorem pc_217 (w : World) : PropC w 217 "value" 74 73 := ⟨by kernel_rfl, by kernel_rfl, by kernel_rfl, by kernel_rfl⟩
theorem pc_264 (w : World) : PropC w 264 "value" 74 73 := ⟨by kernel_rfl, by kernel_rfl, by kernel_rfl, by kernel_rfl⟩
theorem pc_284 (w : World) : PropC w 284 "value" 74 73 := ⟨by kernel_rfl, by kernel_rfl, by kernel_rfl, by kernel_rfl⟩
theorem pc_415 (w : World) : PropC w 415 "value" 405 404 := ⟨by kernel_rfl, by kernel_rfl, by kernel_rfl, by kernel_rfl⟩
theorem ps_217 (w : World) : PropC w 217 "stripped_value" 214 213 := ⟨by kernel_rfl, by kernel_rfl, by kernel_rfl, by kernel_rfl⟩
theorem ps_264 (w : World) : PropC w 264 "stripped_value" 261 260 := ⟨by kernel_rfl, by kernel_rfl, by kernel_rfl, by kernel_rfl⟩
theorem ps_284 (w : World) : PropC w 284 "stripped_value" 281 280 := ⟨by kernel_rfl, by kernel_rfl, by kernel_rfl, by kernel_rfl⟩

theorem lg_181 (w : World) : LstG w 181 := ⟨by kernel_rfl, by kernel_rfl, by kernel_rfl, by kernel_rfl⟩
theorem lg_217 (w : World) : LstG w 217 := ⟨by kernel_rfl, by kernel_rfl, by kernel_rfl, by kernel_rfl⟩
theorem lg_244 (w : World) : LstG w 244 := ⟨by kernel_rfl, by kernel_rfl, by kernel_rfl, by kernel_rfl⟩
theorem lg_264 (w : World) : LstG w 264 := ⟨by kernel_rfl, by kernel_rfl, by kernel_rfl, by kernel_rfl⟩
theorem lg_284 (w : World) : LstG w 284 := ⟨by kernel_rfl, by kernel_rfl, by kernel_rfl, by kernel_rfl⟩
section
variable {w : World} {A : Around} {s : Shared}
/-- a property of an object of a list subclass -/
theorem get_prL {x C p f : Addr} {ox od : Obj} {name : Str} {expr : Bool} {P : Value → Shared → Prop} {Q : Value → Shared → Prop} {E : Value → Shared → Prop} (PC : PropC w C name p f) (L : LstG w C) (B : Bs w s.heap) (I : InstAt s.heap x ox C (some od))
    (hdo : Does w A.in1 (.call (.ref f) ⟨[.ref x], []⟩) { s with toks := s.toks + 1 } P) (hP : ∀ v s', P v s' → handedIn v = true ∧ Q v s') : wpAny (MM w) A (getAttr (.ref x) name expr) Q E s := by
  have hh := L.hd
  obtain ⟨rest, hrc⟩ := PC.rec'
  exact getL_bind L B I (findObj_data (by obtain ⟨cd, hc, _⟩ := any_some hh; rw [hc]; rfl) PC.fd PC.ng PC.tk) (prop_get (s := { s with toks := s.toks + 1 }) B.K hrc hdo) hP
/-- a property of a terminal -/
theorem get_pr {x C p f : Addr} {ox od : Obj} {name : Str} {expr : Bool} {P : Value → Shared → Prop} {Q : Value → Shared → Prop} {E : Value → Shared → Prop} (PC : PropC w C name p f) (hg : plainGet (KK w) C name = true) (hh : hasDictIn (KK w) C = true) (B : Bs w s.heap) (I : InstAt s.heap x ox C (some od))
    (hdo : Does w A.in1 (.call (.ref f) ⟨[.ref x], []⟩) { s with toks := s.toks + 1 } P) (hP : ∀ v s', P v s' → handedIn v = true ∧ Q v s') : wpAny (MM w) A (getAttr (.ref x) name expr) Q E s := by
  obtain ⟨rest, hrc⟩ := PC.rec'
  refine get_bind B.K I (plainGet_of hg).1 (findObj_data (by obtain ⟨cd, hc, _⟩ := any_some hh; rw [hc]; rfl) PC.fd PC.ng PC.tk) (plainGet_of hg).2 (wpAny_call (prop_get (s := { s with toks := s.toks + 1 }) B.K hrc ?_))
  refine codeAny_of_does hdo fun v s' p => ?_
  obtain ⟨a, b⟩ := hP v s' p
  dsimp only
  rw [handedOut_of a]
  exact wpAny_pure b
end
/-- x.value is the text t, from every heap that keeps h -/
def Vals (w : World) (h : Heap) (n : Nat) (v : Value) (t : Str) : Prop :=
  ∀ (A : Around) (s : Shared) (Q : Value → Shared → Prop) (E : Value → Shared → Prop) (expr : Bool), Small A n → Bs w s.heap → KeepT h s.heap → (∀ y s', Grown s s' → Txt h y t → Q y s') → wpAny (MM w) A (getAttr v "value" expr) Q E s
theorem Vals.keeps {w h h' n v t} (x : Vals w h n v t) (T : Tab h) (k : KeepT h h') : Vals w h' n v t := fun A s Q E e a b c d => x A s Q E e a b (k.trans c) fun y s' G ty => d y s' G (ty.keepsT T k)
theorem Vals.weaken {w h n m v t} (x : Vals w h n v t) (k : n ≤ m) : Vals w h m v t := fun A s Q E e a b c d => x A s Q E e (a.weaken k) b c d
theorem Txt.handed {h : Heap} {v : Value} {t : Str} (x : Txt h v t) : handedIn v = true := by
  rcases x with ⟨u, rfl⟩ | ⟨k, a, d, tk, es, n, tk', rfl, _⟩ <;> rfl
theorem instAt_keepsT {h h' : Heap} {x C : Addr} {ox od : Obj} (I : InstAt h x ox C (some od)) (hT : Tab h) (hod : Solid od) (k : KeepT h h') : InstAt h' x ox C (some od) := by
  obtain ⟨a, b, c, d⟩ := I
  refine ⟨KeepT.get k hT a (.inl fun z => by rw [b] at z; cases z), b, c, ?_⟩
  revert d
  cases ox.dict <;> first | exact id | exact fun d => KeepT.get k hT d hod
theorem vals_of {w : World} {h : Heap} {x C p f : Addr} {ox od : Obj} {t : Str} {n : Nat} (hT : Tab h) (I : InstAt h x ox C (some od)) (hod : Solid od) (PC : PropC w C "value" p f) (L : LstG w C)
    (hc : ∀ (A : Around) (s : Shared) (P : Value → Shared → Prop), Small A n → Bs w s.heap → KeepT h s.heap → (∀ y s', Grown s s' → Txt h y t → P y s') → Does w A (.call (.ref f) ⟨[.ref x], []⟩) s P) : Vals w h (n + 1) (.ref x) t := by
  intro A s Q E expr hA B hk hQ
  refine get_prL (P := fun y s' => handedIn y = true ∧ Q y s') PC L B (instAt_keepsT I hT hod hk) (hc _ _ _ hA.in1 B hk fun y s' G ty => ⟨ty.handed, hQ y s' ?_ ty⟩) fun v s' p => p
  exact ⟨G.hp, G.os, G.dr, G.gz, G.go, G.gb⟩

theorem inst_tl {h : Heap} {a C d : Addr} {xs : Array Value} {es : List DictEntry} {n ep : Nat} (e1 : h.get? a = some (tlObj C d xs ep)) (e2 : h.get? d = some (dictOf es n)) : InstAt h a (tlObj C d xs ep) C (some (dictOf es n)) := ⟨e1, rfl, rfl, e2⟩
theorem inst_term {h : Heap} {a C d : Addr} {t : Str} {tk : Tok} {es : List DictEntry} {n : Nat} (e1 : h.get? a = some (termObj C d t tk)) (e2 : h.get? d = some (dictOf es n)) : InstAt h a (termObj C d t tk) C (some (dictOf es n)) := ⟨e1, rfl, rfl, e2⟩
end Mine

end
section
open PySem PySem.W PyProof.Rows PySem.Calls
set_option maxRecDepth 100000
namespace Mine
section
variable {w : World} {A : Around} {s : Shared}
theorem fn157 {x : Addr} {P : Value → Shared → Prop} (hA : Small A 2) (B : Bs w s.heap) (hP : ∀ s' u, Grown s s' → P (.str ⟨#[32]⟩ u) s') : Does w A (.call (.ref 157) ⟨[.ref x], []⟩) s P := by
  have ho : (KK w).lookup 157 = some _ := rfl
  refine does_def [("self", .ref x)] (hA.weaken (by omega)) B ho (by kernel_rfl) (BindsTo.of_eq rfl) (by decide) rfl rfl rfl rfl fun h₁ F B₁ => ?_
  exact wpAny_execs_cons (wpAny_Return_some (wpAny_Constant_str (hP _ _ (Grown.of_heapT (s := s) (KeepT.of_keep F.keep)))))
theorem fn404 {x : Addr} {P : Value → Shared → Prop} (hA : Small A 2) (B : Bs w s.heap) (hP : ∀ s', Grown s s' → P (.ref x) s') : Does w A (.call (.ref 404) ⟨[.ref x], []⟩) s P := by
  have ho : (KK w).lookup 404 = some _ := rfl
  refine does_def [("self", .ref x)] (hA.weaken (by omega)) B ho (by kernel_rfl) (BindsTo.of_eq rfl) (by decide) rfl rfl rfl rfl fun h₁ F B₁ => ?_
  exact wpAny_execs_cons (wpAny_Return_some (name_loc F.ns (v := .ref x) rfl (hP _ (Grown.of_heapT (s := s) (KeepT.of_keep F.keep)))))
end

theorem dict_solid {es : List DictEntry} {n : Nat} : Solid (dictOf es n) := .inl fun z => by cases z

theorem vals_cfws {w : World} {h : Heap} {v : Value} {xs : List Value} (hT : Tab h) (x : TL h v 181 xs) : Vals w h 3 v ⟨#[32]⟩ := by
  obtain ⟨a, d, es, n, ep, rfl, e1, e2, _⟩ := x
  exact vals_of hT (inst_tl e1 e2) dict_solid (pc_181 w) (lg_181 w) fun A s P hA B hk hP => fn157 hA B fun s' u G => hP _ _ G (.inl ⟨u, rfl⟩)
theorem vals_term {w : World} {h : Heap} {v : Value} {t k : Str} (hT : Tab h) (x : Term h v 415 t k) : Vals w h 3 v t := by
  have x' := x
  obtain ⟨a, d, tk, es, n, tk', rfl, e1, e2, _⟩ := x
  intro A s Q E expr hA B hk hQ
  refine get_pr (P := fun y s' => handedIn y = true ∧ Q y s') (pc_415 w) (by kernel_rfl) (by kernel_rfl) B (instAt_keepsT (inst_term e1 e2) hT dict_solid hk) (fn404 hA.in1 B fun s' G => ⟨rfl, hQ _ s' ?_ (.inr ⟨k, x'⟩)⟩) fun v s' p => p
  exact ⟨G.hp, G.os, G.dr, G.gz, G.go, G.gb⟩

def nonempty (ts : List Str) (i : Nat) : Bool := match ts[i]? with
  | some t => decide (t.length ≠ 0)
  | none => true

set_option maxHeartbeats 1000000 in
theorem val73 {w A s} {C x d : Addr} {ep n : Nat} {xs : List Value} {ts : List Str} {P : Value → Shared → Prop} (L : Lst w C) (hA : Small A (n + 12)) (B : Bs w s.heap) (hx : s.heap.get? x = some (tlObj C d xs.toArray ep)) (hlen : xs.length = ts.length)
    (hsh : ∀ (i : Nat) v t, xs[i]? = some v → ts[i]? = some t → Vals w s.heap n v t) (hts : ∀ t ∈ ts, t.length ≤ sizeLine) (hz : (cat ts).length ≤ sizeLine) (hn : xs.length ≤ sizeLine) (hP : ∀ s' u, Grown s s' → P (.str (cat ts) u) s') : Does w A (.call (.ref 73) ⟨[.ref x], []⟩) s P := by
  have ho : (KK w).lookup 73 = some _ := rfl
  refine does_def [("self", .ref x)] (hA.weaken (by omega)) B ho (by kernel_rfl) (BindsTo.of_eq rfl) (by decide) rfl rfl rfl rfl fun h₁ F B₁ => ?_
  generalize hAd : A.deeper _ = A₁
  have hA₁ : Small A₁ (n + 11) := hAd ▸ hA.deeper
  clear hAd
  refine wpAny_execs_cons (wpAny_Return_some (MethodCall_ (wpAny_Constant_str (GM.join ?_))))
  refine callWith_builtin rfl (evalArgs_plain (spliced_cons ?_))
  have k₁ : KeepT s.heap h₁ := KeepT.of_keep F.keep
  have hi : ∀ (i : Nat) v, xs[i]? = some v → ∃ t, ts[i]? = some t := fun i v hv => by
    rcases Nat.lt_or_ge i ts.length with h | h
    · exact ⟨_, List.getElem?_eq_getElem h⟩
    · rw [List.getElem?_eq_none (by omega)] at hv; cases hv
  refine gen_exp (A' := A₁.in1.in1) (c := 72) (P := 68) (nA := n + 4) (xs := xs) (pz := nonempty ts) (F := fun i y => IsItem h₁ ts i y) (by decide) rfl rfl B₁ hA₁.room ((hA₁.in1.in1).weaken (by omega)) L.list L.iter (F.keep _ _ hx)
    (fun Q' E' q => name_loc F.ns (v := .ref x) rfl q) rfl rfl (by decide) rfl rfl rfl (fun _ => rfl) (fun D code hD => ⟨?_, ?_⟩) ?_
  · intro A₂ E₂ i v s₂ m hA₂ hv hk hn₂ hm
    have B₂ := B₁.keepsT hk
    obtain ⟨t, ht⟩ := hi i v hv
    rw [List.forIn_cons]
    refine wpAny_bind ?_
    rw [if_pos rfl]
    refine wpAny_bind (wpAny_isTrue_value (Attribute_any_ (name_loc hn₂ hm (hsh i v t hv ht A₂ _ _ _ _ (hA₂.weaken (by omega)) B₂ (k₁.trans hk) fun y s' G ty => ?_))))
    refine truthy_txt (B₂.keepsT G.hp) ((ty.keepsT B.tab (k₁.trans hk)).keepsT B₂.tab G.hp) (hts t (List.mem_of_getElem? ht)) fun tk => ?_
    refine wpAny_pure ?_
    show wpAny _ _ (forIn [] _ _) _ _ _
    refine wpAny_pure ⟨?_, G.hp, G.os, G.dr, G.gz, G.go, G.gb⟩
    simp [nonempty, ht]
  · intro A₂ E₂ i v s₂ m hA₂ hv _ hk hn₂ hm
    have B₂ := B₁.keepsT hk
    obtain ⟨t, ht⟩ := hi i v hv
    exact Attribute_any_ (name_loc hn₂ hm (hsh i v t hv ht A₂ _ _ _ _ (hA₂.weaken (by omega)) B₂ (k₁.trans hk) fun y s' G ty => ⟨⟨t, ht, ty.keepsT B.tab k₁⟩, G⟩))
  · intro g N s' St W st hN hg
    refine spliced_nil ?_
    refine join_gen W st hN hg (Nat.le_trans (passing_le _ _) hn) fun s₂ acc G hacc => ?_
    rw [hlen] at hacc
    obtain ⟨l, e1, e2, e3⟩ := glue_items (h := h₁) (ts := ts) (pz := nonempty ts) (acc := acc.toList) (fun i t ht hp => by
      simp [nonempty, ht] at hp
      cases t with
      | mk c => exact congrArg Str.mk (Array.eq_empty_of_size_eq_zero hp)) hacc
    refine ⟨l, e1, fun p hp => (e2 p hp).keepsT B₁.tab G.hp, by rw [e3]; exact hz, fun u tk => ?_⟩
    rw [e3]
    refine hP _ _ ?_
    exact Grown.trans (Grown.of_heapT (s := s) k₁) (G.trans (Grown.of_heapT (KeepX.refl _ _)))
end Mine

end
section
open PySem PySem.W PyProof.Rows PySem.Calls
set_option maxRecDepth 100000
namespace Mine
theorem lst_181 (w : World) : Lst w 181 := ⟨by kernel_rfl, by kernel_rfl⟩
theorem lst_217 (w : World) : Lst w 217 := ⟨by kernel_rfl, by kernel_rfl⟩
theorem lst_244 (w : World) : Lst w 244 := ⟨by kernel_rfl, by kernel_rfl⟩
theorem lst_264 (w : World) : Lst w 264 := ⟨by kernel_rfl, by kernel_rfl⟩
theorem lst_284 (w : World) : Lst w 284 := ⟨by kernel_rfl, by kernel_rfl⟩

section
variable {w : World} {h : Heap} {v : Value} {C : Addr} {xs : List Value} {ts : List Str} {n : Nat}
/-- value of a list that joins the values of its items -/
theorem vals_73 (hT : Tab h) (x : TL h v C xs) (L : Lst w C) (PC : PropC w C "value" 74 73) (G : LstG w C) (hlen : xs.length = ts.length) (hsh : ∀ (i : Nat) v t, xs[i]? = some v → ts[i]? = some t → Vals w h n v t)
    (hts : ∀ t ∈ ts, t.length ≤ sizeLine) (hz : (cat ts).length ≤ sizeLine) (hn : xs.length ≤ sizeLine) : Vals w h (n + 13) v (cat ts) := by
  obtain ⟨a, d, es, m, ep, rfl, e1, e2, _⟩ := x
  refine vals_of (n := n + 12) hT (inst_tl e1 e2) dict_solid PC G fun A s P hA B hk hP => ?_
  exact val73 L hA B (KeepT.get hk hT e1 (.inl fun z => by cases z)) hlen (fun i v t hv ht => (hsh i v t hv ht).keeps hT hk) hts hz hn fun s' u G => hP _ _ G (.inl ⟨u, rfl⟩)
/-- value of a bare quoted string -/
theorem vals_240 (hT : Tab h) (x : TL h v 244 xs) (hlen : xs.length = ts.length) (hsh : ∀ (i : Nat) v t, xs[i]? = some v → ts[i]? = some t → Shows w h n v t)
    (hz : (cat ts).length ≤ sizeLine) (hn : xs.length ≤ sizeLine) : Vals w h (n + 13) v (cat ts) := by
  obtain ⟨a, d, es, m, ep, rfl, e1, e2, _⟩ := x
  refine vals_of (n := n + 12) hT (inst_tl e1 e2) dict_solid (pc_244 w) (lg_244 w) fun A s P hA B hk hP => ?_
  exact val240 (lst_244 w) hA B (KeepT.get hk hT e1 (.inl fun z => by cases z)) hlen (fun i v t hv ht => (hsh i v t hv ht).keeps hk) hz hn fun s' u G => hP _ _ G (.inl ⟨u, rfl⟩)
/-- str of a list that joins the texts of its items -/
theorem shows_58 (hT : Tab h) (x : TL h v C xs) (L : Lst w C) (hf : findIn (KK w) (.ref C) "__str__" = some (some (.ref 58))) (hlen : xs.length = ts.length) (hsh : ∀ (i : Nat) v t, xs[i]? = some v → ts[i]? = some t → Shows w h n v t)
    (hz : (cat ts).length ≤ sizeLine) (hn : xs.length ≤ sizeLine) : Shows w h (n + 15) v (cat ts) := by
  obtain ⟨a, d, es, m, ep, rfl, e1, e2, _⟩ := x
  refine shows_fn (n := n + 12) hT (fun o e => by cases e; exact dict_solid) (inst_tl e1 e2) hf (by kernel_rfl) fun A s P hA B hk hP => ?_
  exact str58 L hA B (KeepT.get hk hT e1 (.inl fun z => by cases z)) hlen (fun i v t hv ht => (hsh i v t hv ht).keeps hk) hz hn fun s' u G => hP _ _ G
/-- str of a bare quoted string -/
theorem shows_233 (hT : Tab h) (x : TL h v 244 xs) (hlen : xs.length = ts.length) (hsh : ∀ (i : Nat) v t, xs[i]? = some v → ts[i]? = some t → Shows w h n v t)
    (hz : (cat ts).length ≤ 100000) (hn : xs.length ≤ sizeLine) : Shows w h (n + 15) v (⟨#[34]⟩ ++ mq (cat ts) ++ ⟨#[34]⟩) := by
  obtain ⟨a, d, es, m, ep, rfl, e1, e2, _⟩ := x
  refine shows_fn (f := 233) (n := n + 12) hT (fun o e => by cases e; exact dict_solid) (inst_tl e1 e2) (by kernel_rfl) (by kernel_rfl) fun A s P hA B hk hP => ?_
  exact str233 (lst_244 w) hA B (KeepT.get hk hT e1 (.inl fun z => by cases z)) hlen (fun i v t hv ht => (hsh i v t hv ht).keeps hk) (Nat.le_trans hz (by rw [sizeLine_eq]; decide)) hn hz fun s' u G => hP _ _ G
end
end Mine

end
section
open PySem PySem.W PyProof.Rows PySem.Calls
set_option maxRecDepth 100000
namespace Mine
/-- v.token_type is the text T -/
def TT (w : World) (h : Heap) (v : Value) (T : Str) : Prop :=
  ∀ (A : Around) (s : Shared) (Q : Value → Shared → Prop) (E : Value → Shared → Prop) (expr : Bool), Bs w s.heap → KeepT h s.heap → (∀ s' u, Grown s s' → Q (.str T u) s') → wpAny (MM w) A (getAttr v "token_type" expr) Q E s
theorem TT.keeps {w h h' v T} (x : TT w h v T) (k : KeepT h h') : TT w h' v T := fun A s Q E e a b c => x A s Q E e a (k.trans b) c

def strAt (v : Option (Option Value)) : Option Str := match v with
  | some (some (.str x _)) => some x
  | _ => none
theorem strAt_of {v : Option (Option Value)} {x : Str} (h : strAt v = some x) : ∃ u, v = some (some (.str x u)) := by
  rcases v with _ | _ | v
  · cases h
  · cases h
  · cases v <;> cases h
    exact ⟨_, rfl⟩

theorem tt_tl {w : World} {h : Heap} {v : Value} {C : Addr} {xs : List Value} {T : Str} (hT : Tab h) (x : TL h v C xs) (L : LstG w C) (hc : strAt (findIn (KK w) (.ref C) "token_type") = some T)
    (hg : ∀ u, specialIn (KK w) (.str T u) "__get__" = some none) : TT w h v T := by
  obtain ⟨a, d, es, n, ep, rfl, e1, e2, e3⟩ := x
  obtain ⟨u, hu⟩ := strAt_of hc
  intro A s Q E expr B hk hQ
  refine getL_value L B (instAt_keepsT (inst_tl e1 e2) hT dict_solid hk) (findObj_cls L.hd hu (hg u) rfl (by decide) (by rw [lookIn_dict]; exact e3)) rfl (hQ _ u ?_)
  exact Grown.of_heapT (KeepX.refl _ _)
theorem tt_term {w : World} {h : Heap} {v : Value} {t k : Str} (hT : Tab h) (x : Term h v 415 t k) : TT w h v k := by
  obtain ⟨a, d, tk, es, n, tk', rfl, e1, e2, e3⟩ := x
  intro A s Q E expr B hk hQ
  refine get_value B.K (instAt_keepsT (inst_term e1 e2) hT dict_solid hk) (by kernel_rfl) (findObj_own (attr := none) (by kernel_rfl) (by kernel_rfl) rfl (by rw [lookIn_dict]; exact e3)) rfl (hQ _ tk' ?_)
  exact Grown.of_heapT (KeepX.refl _ _)
theorem tt_181 {w h v xs} (hT : Tab h) (x : TL h v 181 xs) : TT w h v "cfws" := tt_tl hT x (lg_181 w) (by kernel_rfl) fun _ => by kernel_rfl
theorem tt_217 {w h v xs} (hT : Tab h) (x : TL h v 217 xs) : TT w h v "quoted-string" := tt_tl hT x (lg_217 w) (by kernel_rfl) fun _ => by kernel_rfl
theorem tt_244 {w h v xs} (hT : Tab h) (x : TL h v 244 xs) : TT w h v "bare-quoted-string" := tt_tl hT x (lg_244 w) (by kernel_rfl) fun _ => by kernel_rfl
theorem tt_264 {w h v xs} (hT : Tab h) (x : TL h v 264 xs) : TT w h v "attribute" := tt_tl hT x (lg_264 w) (by kernel_rfl) fun _ => by kernel_rfl

section
variable {w : World} {A : Around} {s : Shared} {E : Value → Shared → Prop}
/-- a for loop over a row of items, with any fact of the state that each turn keeps -/
theorem for_seq {R : Result → Shared → Prop} {env : Env} {x : Str} {px : Pos} {body : List Stmt} {I l : Addr} {items : List Value} (hh : A.handled = none) (hx : env.kindOf x = some .local)
    (hp : (env.scope.kind == .class || (env.scope.kind == .module && env.locals != env.globals)) = false) (hIL : I ≠ env.locals)
    (J : Nat → Shared → Prop) (pj : ∀ i s, J i s → s.heap.IsListIter I l i ∧ IsSeq s.heap l items ∧ ∃ m, s.heap.Ns env.locals m)
    (step : ∀ (i : Nat) v (s : Shared) m h₂ (E' : Value → Shared → Prop), items[i]? = some v → J i s → s.heap.Ns env.locals m → h₂.IsListIter I l (i + 1) → h₂.Ns env.locals (fun y => if y = x then some v else m y) →
      (∀ b o, b ≠ env.locals → b ≠ I → s.heap.get? b = some o → h₂.get? b = some o) →
      wpAny (MM w) A (execs body env) (fun f s₃ => match f with
        | .next | .cont => J (i + 1) s₃
        | .brk => False
        | .ret v => R (.ok (.ret v)) s₃) E' { s with heap := h₂, toks := s.toks + 1 })
    (done : ∀ s h₁, J items.length s → (∀ b o, b ≠ I → s.heap.get? b = some o → h₁.get? b = some o) → R (.ok .next) { s with heap := h₁ })
    (h0 : J 0 s) : codeAny (MM w) A (.forLoop (.Name x px) (.ref I) body [] env) R s := by
  refine codeAny_forLoop (fun n s' => ∃ i, J i s' ∧ i ≤ items.length ∧ n = items.length + 1 - i) ?_ (items.length + 1) ⟨0, h0, Nat.zero_le _, rfl⟩
  rintro n s' ⟨i, hJ, hi, rfl⟩
  obtain ⟨hit, hl, m, hn⟩ := pj i s' hJ
  cases hv : items[i]? with
  | none =>
    have hsz : i = items.length := Nat.le_antisymm hi (by simpa using hv)
    subst hsz
    exact next_end hh hit hl hv fun h₁ he₁ => wpAny_execs_nil (done s' h₁ hJ he₁)
  | some v =>
    have hlt : i < items.length := (List.getElem?_eq_some_iff.mp hv).1
    refine next_item hit hl hv fun h₁ hit₁ hs₁ => ?_
    refine wpAny_assign_Name (wpAny_storeName_local hx (hn.sameBut hs₁ (Ne.symm hIL)) (fun h₂ hn₂ hs₂ => ?_) hp)
    refine wpAny_mono (step i v s' m h₂ _ hv hJ hn (hit₁.extBut hs₂.extBut hIL) hn₂ fun b o hbL hbI e => (hs₂.2 b hbL).trans ((hs₁.2 b hbI).trans e)) (fun f s₃ h₃ => ?_) fun _ _ e => e
    cases f with
    | next => exact ⟨_, by omega, i + 1, h₃, hlt, rfl⟩
    | cont => exact ⟨_, by omega, i + 1, h₃, hlt, rfl⟩
    | brk => exact h₃.elim
    | ret v => exact h₃
end
end Mine

end
section
open PySem PySem.W PyProof.Rows PySem.Calls
set_option maxRecDepth 100000
namespace Mine
theorem KeepT.over2 {hb h h' : Heap} {C I : Nat} (T : Tab hb) (k : KeepT hb h) (k2 : ∀ b o, b ≠ C → b ≠ I → h.get? b = some o → h'.get? b = some o) (hC : hb.objs.size ≤ C) (hI : hb.objs.size ≤ I) : KeepT hb h' :=
  ⟨fun b o e n _ => k2 b o (ne_of_get e hC) (ne_of_get e hI) (k.kp b o e n fun q => q), fun c P hm ps p q => by
    obtain ⟨m, p', q'⟩ := k.gr c P hm ps p q
    have c1 := T.above hC c P hm
    have c2 := T.above hI c P hm
    exact ⟨m, isCode_at p' (fun o e => k2 c o (Ne.symm c1.1) (Ne.symm c2.1) e) (fun o e => k2 P o (Ne.symm c1.2) (Ne.symm c2.2) e), tableAt_at q' (fun o e => k2 c o (Ne.symm c1.1) (Ne.symm c2.1) e) (fun o e => k2 P o (Ne.symm c1.2) (Ne.symm c2.2) e)⟩⟩
theorem Grown.toks {s s' : Shared} {h : Heap} {tk tk' : Nat} (G : Grown s s') (k : KeepT s.heap h) : Grown { s with toks := tk } { s' with heap := h, toks := tk' } := ⟨k, G.os, G.dr, G.gz, G.go, G.gb⟩

set_option maxHeartbeats 1000000 in
theorem fn213 {w : World} {A : Around} {s : Shared} {C x d : Addr} {ep n a : Nat} {xs : List Value} {y : Value} {t : Str} {P : Value → Shared → Prop} {hb : Heap} (hk0 : KeepT hb s.heap) (L : Lst w C) (hA : Small A (n + 12)) (B : Bs w s.heap) (hx : s.heap.get? x = some (tlObj C d xs.toArray ep))
    (hcf : ∀ i, i < a → ∀ v, xs[i]? = some v → ∃ T, TT w hb v T ∧ T ≠ "bare-quoted-string") (hy : xs[a]? = some y) (hT : TT w hb y "bare-quoted-string") (hV : Vals w hb n y t)
    (hP : ∀ y' s', Grown s s' → Txt hb y' t → P y' s') : Does w A (.call (.ref 213) ⟨[.ref x], []⟩) s P := by
  have ho : (KK w).lookup 213 = some _ := rfl
  refine does_def [("self", .ref x)] (hA.weaken (by omega)) B ho (by kernel_rfl) (BindsTo.of_eq rfl) (by decide) rfl rfl rfl rfl fun h₁ F B₁ => ?_
  generalize hAd : A.deeper _ = A₁
  have hA₁ : Small A₁ (n + 11) := hAd ▸ hA.deeper
  clear hAd
  have k₁ : Keep s.heap h₁ := F.keep
  refine wpAny_execs_cons (wpAny_For (name_loc F.ns (v := .ref x) rfl (pyIter_inst B₁ (F.keep _ _ hx) rfl L.list L.iter ?_)))
  have hLl : s.heap.objs.size < h₁.objs.size := F.ns.lt
  have k₂ : Keep h₁ (h₁.push (liObj x 0)) := fun b o e => Heap.get?_push_of_some _ e
  have hseq : IsSeq s.heap x xs := ⟨_, _, hx, rfl⟩
  refine for_seq (items := xs) (l := x) (I := h₁.objs.size) hA₁.hd rfl rfl (Nat.ne_of_gt hLl) (fun i s' => i ≤ a ∧ Grown s s' ∧ s'.heap.IsListIter h₁.objs.size x i ∧ ∃ m, s'.heap.Ns s.heap.objs.size m) (fun i s' J => ⟨J.2.2.1, hseq.keepsT B.tab J.2.1.hp fun q => q, J.2.2.2⟩) ?_ ?_ ⟨Nat.zero_le _, ?_, ⟨_, Heap.get?_push_size _ rfl, rfl, rfl⟩, _, F.ns.keeps k₂⟩
  · intro i v s' m h₂ E' hv J hn hit₂ hn₂ hk₂
    obtain ⟨hia, G, _, _⟩ := J
    have kk : KeepT s.heap h₂ := KeepT.over2 B.tab G.hp hk₂ (Nat.le_refl _) (Nat.le_of_lt hLl)
    have GG : ∀ tk, Grown s { s' with heap := h₂, toks := tk } := fun tk => ⟨kk, G.os, G.dr, G.gz, G.go, G.gb⟩
    have B₂ : Bs w h₂ := B.keepsT kk
    refine wpAny_execs_cons (wpAny_If (wpAny_isTrue_Compare1 ?_))
    rcases Nat.lt_or_ge i a with hlt | hge
    · obtain ⟨T, hTT, hne⟩ := hcf i hlt v hv
      refine Attribute_any_ (name_loc hn₂ (v := v) (if_pos rfl) (hTT A₁ _ _ _ true B₂ (hk0.trans kk) fun s₃ u G₃ => wpAny_Constant_str (PySem.P.eq_str (wpAny_truthy_bool ?_))))
      rw [if_neg (by intro q; exact hne (Str.ext' (Array.toList_inj.mp (eq_of_beq q))))]
      refine wpAny_execs_nil (wpAny_execs_nil ?_)
      have T₂ := kk.tab B.tab
      refine ⟨hlt, ((GG _).trans G₃).trans (Grown.of_heapT (KeepX.refl _ _)), iter_keepsT hit₂ T₂ G₃.hp, _, Ns.keepsT hn₂ T₂ G₃.hp fun q => q⟩
    · obtain rfl : i = a := by omega
      obtain rfl : y = v := Option.some.inj (hy.symm.trans hv)
      refine Attribute_any_ (name_loc hn₂ (v := y) (if_pos rfl) (hT A₁ _ _ _ true B₂ (hk0.trans kk) fun s₃ u G₃ => wpAny_Constant_str (PySem.P.eq_str (wpAny_truthy_bool ?_))))
      rw [if_pos (by exact beq_self_eq_true _)]
      have n₃ := Ns.keepsT hn₂ (kk.tab B.tab) G₃.hp fun q => q
      refine wpAny_execs_cons (wpAny_Return_some (Attribute_any_ (name_loc n₃ (v := y) (if_pos rfl) (hV A₁ _ _ _ true (hA₁.weaken (by omega)) (B₂.keepsT G₃.hp) (hk0.trans (kk.trans G₃.hp)) fun y' s₄ G₄ ty => ?_))))
      exact hP _ _ (((GG _).trans G₃).trans ((Grown.of_heapT (KeepX.refl _ _)).trans G₄)) ty
  · intro s' h₁ J
    have : a < xs.length := (List.getElem?_eq_some_iff.mp hy).1
    omega
  · exact Grown.of_heap (s := s) (fun b o e => k₂ _ _ (k₁ _ _ e)) (Nat.le_succ _)
set_option maxHeartbeats 1000000 in
theorem fn260 {w : World} {A : Around} {s : Shared} {C x d : Addr} {ep n a : Nat} {xs : List Value} {y : Value} {t : Str} {P : Value → Shared → Prop} {hb : Heap} (hk0 : KeepT hb s.heap) (L : Lst w C) (hA : Small A (n + 12)) (B : Bs w s.heap) (hx : s.heap.get? x = some (tlObj C d xs.toArray ep))
    (hcf : ∀ i, i < a → ∀ v, xs[i]? = some v → ∃ T, TT w hb v T ∧ Txt.endswith T "attrtext" = false) {k : Str} (hk : Txt.endswith k "attrtext" = true) (hy : xs[a]? = some y) (hT : TT w hb y k) (hV : Vals w hb n y t)
    (hP : ∀ y' s', Grown s s' → Txt hb y' t → P y' s') : Does w A (.call (.ref 260) ⟨[.ref x], []⟩) s P := by
  have ho : (KK w).lookup 260 = some _ := rfl
  refine does_def [("self", .ref x)] (hA.weaken (by omega)) B ho (by kernel_rfl) (BindsTo.of_eq rfl) (by decide) rfl rfl rfl rfl fun h₁ F B₁ => ?_
  generalize hAd : A.deeper _ = A₁
  have hA₁ : Small A₁ (n + 11) := hAd ▸ hA.deeper
  clear hAd
  have k₁ : Keep s.heap h₁ := F.keep
  refine wpAny_execs_cons (wpAny_For (name_loc F.ns (v := .ref x) rfl (pyIter_inst B₁ (F.keep _ _ hx) rfl L.list L.iter ?_)))
  have hLl : s.heap.objs.size < h₁.objs.size := F.ns.lt
  have k₂ : Keep h₁ (h₁.push (liObj x 0)) := fun b o e => Heap.get?_push_of_some _ e
  have hseq : IsSeq s.heap x xs := ⟨_, _, hx, rfl⟩
  refine for_seq (items := xs) (l := x) (I := h₁.objs.size) hA₁.hd rfl rfl (Nat.ne_of_gt hLl) (fun i s' => i ≤ a ∧ Grown s s' ∧ s'.heap.IsListIter h₁.objs.size x i ∧ ∃ m, s'.heap.Ns s.heap.objs.size m) (fun i s' J => ⟨J.2.2.1, hseq.keepsT B.tab J.2.1.hp fun q => q, J.2.2.2⟩) ?_ ?_ ⟨Nat.zero_le _, ?_, ⟨_, Heap.get?_push_size _ rfl, rfl, rfl⟩, _, F.ns.keeps k₂⟩
  · intro i v s' m h₂ E' hv J hn hit₂ hn₂ hk₂
    obtain ⟨hia, G, _, _⟩ := J
    have kk : KeepT s.heap h₂ := KeepT.over2 B.tab G.hp hk₂ (Nat.le_refl _) (Nat.le_of_lt hLl)
    have GG : ∀ tk, Grown s { s' with heap := h₂, toks := tk } := fun tk => ⟨kk, G.os, G.dr, G.gz, G.go, G.gb⟩
    have B₂ : Bs w h₂ := B.keepsT kk
    refine wpAny_execs_cons (wpAny_If (wpAny_isTrue_value (MethodCall_ ?_)))
    rcases Nat.lt_or_ge i a with hlt | hge
    · obtain ⟨T, hTT, hne⟩ := hcf i hlt v hv
      refine Attribute_any_ (name_loc hn₂ (v := v) (if_pos rfl) (hTT A₁ _ _ _ true B₂ (hk0.trans kk) fun s₃ u G₃ => GM.endswith (callWith_builtin rfl (evalArgs_plain (args_cons (wpAny_Constant_str (args_nil (SC.endswith (wpAny_truthy_bool ?_))))))))) 
      rw [hne, if_neg Bool.false_ne_true]
      refine wpAny_execs_nil (wpAny_execs_nil ?_)
      have T₂ := kk.tab B.tab
      refine ⟨hlt, ((GG _).trans G₃).trans (Grown.of_heapT (KeepX.refl _ _)), iter_keepsT hit₂ T₂ G₃.hp, _, Ns.keepsT hn₂ T₂ G₃.hp fun q => q⟩
    · obtain rfl : i = a := by omega
      obtain rfl : y = v := Option.some.inj (hy.symm.trans hv)
      refine Attribute_any_ (name_loc hn₂ (v := y) (if_pos rfl) (hT A₁ _ _ _ true B₂ (hk0.trans kk) fun s₃ u G₃ => GM.endswith (callWith_builtin rfl (evalArgs_plain (args_cons (wpAny_Constant_str (args_nil (SC.endswith (wpAny_truthy_bool ?_))))))))) 
      rw [hk, if_pos rfl]
      have n₃ := Ns.keepsT hn₂ (kk.tab B.tab) G₃.hp fun q => q
      refine wpAny_execs_cons (wpAny_Return_some (Attribute_any_ (name_loc n₃ (v := y) (if_pos rfl) (hV A₁ _ _ _ true (hA₁.weaken (by omega)) (B₂.keepsT G₃.hp) (hk0.trans (kk.trans G₃.hp)) fun y' s₄ G₄ ty => ?_))))
      exact hP _ _ (((GG _).trans G₃).trans ((Grown.of_heapT (KeepX.refl _ _)).trans G₄)) ty
  · intro s' h₁ J
    have : a < xs.length := (List.getElem?_eq_some_iff.mp hy).1
    omega
  · exact Grown.of_heap (s := s) (fun b o e => k₂ _ _ (k₁ _ _ e)) (Nat.le_succ _)
end Mine

end
section
open PySem PySem.W PyProof.Rows PySem.Calls
set_option maxRecDepth 100000
namespace Mine
theorem kind_listGet : builtinKind "list.__getitem__" = some .method := by decide +kernel
theorem split_listGet : splitId "list.__getitem__" = some ("list", "__getitem__") := by decide +kernel
theorem check_method {M : Model} {A : Around} {E : Value → Shared → Prop} {s : Shared} {i owner n : String} {self : Value} {rest : List Value} {kw : List (Str × Value)} {Q : Unit → Shared → Prop}
    (hk : builtinKind i = some .method) (hs : splitId i = some (owner, n)) (hi : Looks M s.heap (isInstance self (.type owner)) true) (ha : argsOk i ⟨self :: rest, kw⟩) (q : Q () s) :
    wpAny M A (checkBuiltinCall i ⟨self :: rest, kw⟩) Q E s := by
  simp only [checkBuiltinCall, hk, hs]
  refine wpAny_bind (hi.here ?_)
  simp only [Bool.not_true, Bool.false_eq_true, if_false]
  cases hsig : Manifest.signature? i with
  | none => exact wpAny_pure q
  | some sig =>
    simp only [argsOk, hsig] at ha
    have e : Bind.checkArgs i sig ⟨self :: rest, kw⟩ = pure () := ha
    show wpAny M A (Bind.checkArgs i sig ⟨self :: rest, kw⟩) Q E s
    rw [e]
    exact wpAny_pure q
structure LstI (w : World) (C : Addr) : Prop where
  list : mroIn (KK w) C (.type "list") = some true
  item : findIn (KK w) (.ref C) "__getitem__" = some (some (.builtin "list.__getitem__"))
  noseq : noSeq (KK w) C = true
theorem li_284 (w : World) : LstI w 284 := ⟨by kernel_rfl, by kernel_rfl, by kernel_rfl⟩
section
variable {w : World} {A : Around} {s : Shared} {E : Value → Shared → Prop}
theorem ls1 {M : Model} {hh : Heap} {k : Int} {t : Tok} (hf : Builtin.List.listFitsIndex k = true) : Looks M hh (Builtin.List.listSubscript? (.int k t)) (some k) := by
  intro A Q E s _ q
  exact wpAny_listSubscript_int hf q
theorem does_getitem {x C d : Addr} {xs : List Value} {ep k : Nat} {z : Int} {t : Tok} {v : Value} {P : Value → Shared → Prop} (L : LstI w C) (B : Bs w s.heap) (hx : s.heap.get? x = some (tlObj C d xs.toArray ep)) (hz : z = Int.ofNat k) (hf : Builtin.List.listFitsIndex z = true) (hv : xs[k]? = some v) (hP : P v s) :
    Does w A (.call (.builtin "list.__getitem__") ⟨[.ref x, .int z t], []⟩) s P := by
  have t1 : Looks (MM w) s.heap (typeOf (.ref x)) (.ref C) := looks_type hx rfl
  have t2 : Looks (MM w) s.heap (isInstance (.ref x) (.type "list")) true := t1.andThen (looks_mroIn B.K L.list)
  refine does_builtin slot_list_getitem.plain entry_list_getitem (fun Q' E'' q' => @check_method (MM w) _ _ _ "list.__getitem__" "list" "__getitem__" (.ref x) [.int z t] [] _ kind_listGet split_listGet t2 (args_list_getitem _ _) q') ?_
  have hv' : xs.toArray[k]? = some v := by simpa using hv
  obtain ⟨hh, g, dr, tks, os⟩ := s
  dsimp only at hx hP
  have ls : Looks (MM w) hh (Builtin.List.listSubscript? (.int z t)) (some z) := ls1 hf
  have l2 : Looks (MM w) hh (seqItemAt x k) (some v) := fun A Q E s hk q => wpAny_seqItemAt (items := xs.toArray) (n := ep) (hk _ _ hx) rfl (hv'.symm ▸ q)
  unfold Builtin.«list.__getitem__»
  repeat lk
  subst hz
  repeat lk
  exact ⟨_, rfl, hP⟩
theorem getItem_tl {x C d : Addr} {xs : List Value} {ep k : Nat} {z : Int} {t : Tok} {v : Value} {Q : Value → Shared → Prop} (L : LstI w C) (B : Bs w s.heap) (hx : s.heap.get? x = some (tlObj C d xs.toArray ep)) (hz : z = Int.ofNat k) (hf : Builtin.List.listFitsIndex z = true) (hv : xs[k]? = some v) (hQ : Q v s) :
    wpAny (MM w) A (getItem (.ref x) (.int z t)) Q E s := by
  have t1 : Looks (MM w) s.heap (typeOf (.ref x)) (.ref C) := looks_type hx rfl
  have t3 := looks_findIn (M := MM w) B.K L.item
  unfold getItem sequenceKey
  refine wpAny_holding (wpAny_bind (wpAny_bind (t1.here ?_)))
  refine wpAny_bind ((anyM_none B.K L.noseq).here ?_)
  rw [if_pos (show (!false) = true from rfl)]
  refine wpAny_pure (wpAny_bind ?_)
  unfold callSpecial? specialOf
  refine wpAny_bind (wpAny_bind (t1.here (t3.here ?_)))
  dsimp only
  refine wpAny_holding ?_
  rw [slot_list_getitem.bind]
  refine wpAny_bind (wpAny_pure (wpAny_bind (wp_call_of (does_getitem L B hx hz hf hv (wpAny_pure (wpAny_pure hQ))))))
theorem sub_tl {value slice : Expr} {x C d : Addr} {xs : List Value} {ep k : Nat} {z : Int} {t : Tok} {v : Value} {Q : Value → Shared → Prop} (L : LstI w C) (B : Bs w s.heap) (hx : s.heap.get? x = some (tlObj C d xs.toArray ep)) (hz : z = Int.ofNat k) (hf : Builtin.List.listFitsIndex z = true) (hv : xs[k]? = some v) (hQ : Q v s)
    (hs : subscripted slice false (.ref x) (.int z t) = operate [.ref x, .int z t] (getItem (.ref x) (.int z t)) := by with_unfolding_all rfl) (ht : ∀ r, letTemporaryGo value (.ref x) r = pure () := by intro _; with_unfolding_all rfl) :
    wpAny (MM w) A (subscriptTail value slice (.ref x) (.int z t)) Q E s := by
  have t1 : Looks (MM w) s.heap (typeOf (.ref x)) (.ref C) := looks_type hx rfl
  have t3 := looks_findIn (M := MM w) B.K L.item
  unfold subscriptTail
  refine wpAny_bind ?_
  rw [getitemInPython_of_ne (by intro q; cases q)]
  unfold specialOf
  refine wpAny_bind (wpAny_bind (t1.here (t3.here ?_)))
  refine wpAny_pure (wpAny_bind ?_)
  rw [hs]
  exact wpAny_operating (getItem_tl L B hx hz hf hv (wpAny_bind (wpAny_of_eq (ht v) (wpAny_pure hQ))))
end
end Mine

end
section
open PySem PySem.W PyProof.Rows PySem.Calls
set_option maxRecDepth 100000
namespace Mine
open PySem.Builtin PySem.Builtin.Str
abbrev tupObj' (xs : Array Value) : Obj := { cls := .type "tuple", data := .seq xs }
section
variable {w : World} {A : Around} {s : Shared} {E : Value → Shared → Prop}
theorem ends_tuple {a : Addr} {T x y z : Str} {t u1 u2 u3 : Tok} {Q : Value → Shared → Prop} (ha : s.heap.get? a = some (tupObj' #[.str x u1, .str y u2, .str z u3])) (hQ : Q (.bool (Txt.endswith T x || Txt.endswith T y || Txt.endswith T z)) s) :
    wpAny (MM w) A (call (.builtin "str.endswith") [.str T t, .ref a]) Q E s := by
  refine wp_call_of (does_builtin (P := Q) PySem.F.slot_str_endswith.plain PySem.F.entry_str_endswith (fun Q' E' q => PySem.F.slot_str_endswith.check _ _ _ _ _ _ _ _ (typeIs_str _ _ _) (PySem.F.args_str_endswith_2 _ _) q) ?_)
  obtain ⟨hh, g, dr, tks, os⟩ := s
  dsimp only at ha hQ
  have t1 : Looks (MM w) hh (asStr? (.ref a)) none := (Looks.ld ha).andThen .now
  have t2 : Looks (MM w) hh (isInstance (.ref a) (.type "tuple")) true := fun A Q E s k q => wpAny_isInstance (T := "tuple") (b := true) ⟨_, k _ _ ha, rfl⟩ (by rw [isSubtype_type]; kernel_rfl) q
  have t3 : Looks (MM w) hh (seqItems? (.ref a)) (some #[.str x u1, .str y u2, .str z u3]) := fun A Q E s k q => wpAny_seqItems (k _ _ ha) rfl q
  have hc : ∀ p : Str, (decide (Int.toNat 0 + p.length ≤ Min.min ((T.length : Nat) : Int).toNat T.length) && subAt T p (Min.min ((T.length : Nat) : Int).toNat T.length - p.length)) = Txt.endswith T p := by
    intro p
    simp [Txt.endswith]
  have e : ∀ b, (Txt.endswith T x || Txt.endswith T y || Txt.endswith T z) = b → ∃ v, Fin.done (Flow.ret (Value.bool b)) = Fin.done (Flow.ret v) ∧ Q v ⟨hh, g, dr, tks, os⟩ := fun b h => ⟨_, rfl, h ▸ hQ⟩
  clear hQ
  unfold Builtin.«str.endswith» affixEntry
  repeat lk
  cases h1 : Txt.endswith T x with
  | true =>
    rw [if_pos ((hc x).trans h1)]
    repeat lk
    exact e true (by rw [h1]; rfl)
  | false =>
    rw [if_neg (by rw [hc x, h1]; exact Bool.false_ne_true)]
    repeat lk
    cases h2 : Txt.endswith T y with
    | true =>
      rw [if_pos ((hc y).trans h2)]
      repeat lk
      exact e true (by rw [h1, h2]; rfl)
    | false =>
      rw [if_neg (by rw [hc y, h2]; exact Bool.false_ne_true)]
      repeat lk
      cases h3 : Txt.endswith T z with
      | true =>
        rw [if_pos ((hc z).trans h3)]
        repeat lk
        exact e true (by rw [h1, h2, h3]; rfl)
      | false =>
        rw [if_neg (by rw [hc z, h3]; exact Bool.false_ne_true)]
        repeat lk
        exact e false (by rw [h1, h2, h3]; rfl)
end
end Mine

end
section
open PySem PySem.W PyProof.Rows PySem.Calls
set_option maxRecDepth 100000
namespace Mine
/-- x.stripped_value is the text t, from every heap that keeps h -/
def Stripped (w : World) (h : Heap) (n : Nat) (v : Value) (t : Str) : Prop :=
  ∀ (A : Around) (s : Shared) (Q : Value → Shared → Prop) (E : Value → Shared → Prop) (expr : Bool), Small A n → Bs w s.heap → KeepT h s.heap → (∀ y s', Grown s s' → Txt h y t → Q y s') → wpAny (MM w) A (getAttr v "stripped_value" expr) Q E s
theorem Stripped.keeps {w h h' n v t} (x : Stripped w h n v t) (T : Tab h) (k : KeepT h h') : Stripped w h' n v t := fun A s Q E e a b c d => x A s Q E e a b (k.trans c) fun y s' G ty => d y s' G (ty.keepsT T k)
theorem stripped_of {w : World} {h : Heap} {x C p f : Addr} {ox od : Obj} {t : Str} {n : Nat} (hT : Tab h) (I : InstAt h x ox C (some od)) (hod : Solid od) (PC : PropC w C "stripped_value" p f) (L : LstG w C)
    (hc : ∀ (A : Around) (s : Shared) (P : Value → Shared → Prop), Small A n → Bs w s.heap → KeepT h s.heap → (∀ y s', Grown s s' → Txt h y t → P y s') → Does w A (.call (.ref f) ⟨[.ref x], []⟩) s P) : Stripped w h (n + 1) (.ref x) t := by
  intro A s Q E expr hA B hk hQ
  refine get_prL (P := fun y s' => handedIn y = true ∧ Q y s') PC L B (instAt_keepsT I hT hod hk) (hc _ _ _ hA.in1 B hk fun y s' G ty => ⟨ty.handed, hQ y s' ?_ ty⟩) fun v s' p => p
  exact ⟨G.hp, G.os, G.dr, G.gz, G.go, G.gb⟩

theorem store_keeps {h h₂ h₃ : Heap} {L : Addr} (T : Tab h) (k : KeepT h h₂) (hL : h.objs.size ≤ L) (e : Heap.SameBut L h₂ h₃) : KeepT h h₃ :=
  KeepT.over2 (C := L) (I := L) T k (fun b _ hb _ e' => (e.2 b hb).trans e') hL hL

def ends (T : Str) : Bool := Txt.endswith T "quoted-string" || Txt.endswith T "attribute" || Txt.endswith T "extended-attribute"

set_option maxHeartbeats 2000000 in
theorem fn280 {w : World} {A : Around} {s : Shared} {C x d : Addr} {ep n : Nat} {xs : List Value} {y0 y : Value} {T0 T t : Str} {P : Value → Shared → Prop} {hb : Heap} (hk0 : KeepT hb s.heap) (LI : LstI w C) (hA : Small A (n + 12)) (B : Bs w s.heap) (hx : s.heap.get? x = some (tlObj C d xs.toArray ep))
    (h0 : xs[0]? = some y0) (hT0 : TT w hb y0 T0) (hy : (T0 ≠ "cfws" ∧ y = y0) ∨ (T0 = "cfws" ∧ xs[1]? = some y)) (hT : TT w hb y T)
    (hres : (ends T = true ∧ Stripped w hb n y t) ∨ (ends T = false ∧ Vals w hb n (.ref x) t))
    (hP : ∀ y' s', Grown s s' → Txt hb y' t → P y' s') : Does w A (.call (.ref 280) ⟨[.ref x], []⟩) s P := by
  have ho : (KK w).lookup 280 = some _ := rfl
  refine does_def [("self", .ref x)] (hA.weaken (by omega)) B ho (by kernel_rfl) (BindsTo.of_eq rfl) (by decide) rfl rfl rfl rfl fun h₁ F B₁ => ?_
  generalize hAd : A.deeper _ = A₁
  have hA₁ : Small A₁ (n + 11) := hAd ▸ hA.deeper
  clear hAd ho
  refine wpAny_execs_cons (wpAny_Assign_Name (Subscript_ (name_loc F.ns (v := .ref x) rfl (wpAny_Constant_int (sub_tl (k := 0) LI B₁ (F.keep _ _ hx) rfl (by decide) h0 (wpAny_storeName_local rfl F.ns fun h₂ n₂ e₂ => ?_))))))
  dsimp only
  have k₂ : KeepT s.heap h₂ := store_keeps B.tab (KeepT.of_keep F.keep) (Nat.le_refl _) e₂
  have B₂ := B.keepsT k₂
  refine wpAny_execs_cons (wpAny_mono (Q := fun f s' => f = .next ∧ Grown s s' ∧ ∃ m, s'.heap.Ns s.heap.objs.size m ∧ m "token" = some y ∧ m "self" = some (.ref x)) (wpAny_If (wpAny_isTrue_Compare1 (Attribute_any_ (name_loc n₂ (v := y0) rfl (hT0 A₁ _ _ _ true B₂ (hk0.trans k₂) fun s₃ u G₃ => wpAny_Constant_str (PySem.P.eq_str (wpAny_truthy_bool ?_))))))) (fun f s' h => ?_) fun _ _ e => e)
  · have n₃ := Ns.keepsT n₂ (k₂.tab B.tab) G₃.hp fun q => q
    have k₃ := k₂.trans G₃.hp
    have B₃ := B.keepsT k₃
    have G₁ : Grown s s₃ := Grown.trans (Grown.of_heapT (s := s) k₂) G₃
    rcases hy with ⟨hne, rfl⟩ | ⟨rfl, h1⟩
    · rw [if_neg (by intro q; exact hne (Str.ext' (Array.toList_inj.mp (eq_of_beq q))))]
      exact wpAny_execs_nil ⟨rfl, G₁.trans (Grown.of_heapT (KeepX.refl _ _)), _, n₃, rfl, rfl⟩
    · rw [if_pos (by exact beq_self_eq_true _)]
      refine wpAny_execs_cons (wpAny_Assign_Name (Subscript_ (name_loc n₃ (v := .ref x) rfl (wpAny_Constant_int (sub_tl (k := 1) LI B₃ (KeepT.get k₃ B.tab hx (.inl fun z => by cases z)) rfl (by decide) h1 (wpAny_storeName_local rfl n₃ fun h₄ n₄ e₄ => ?_))))))
      exact wpAny_execs_nil ⟨rfl, ⟨store_keeps B.tab k₃ (Nat.le_refl _) e₄, G₁.os, G₁.dr, G₁.gz, G₁.go, G₁.gb⟩, _, n₄, rfl, rfl⟩
  · obtain ⟨rfl, G, m, nn, m1, m2⟩ := h
    dsimp only
    have B' := B.keepsT G.hp
    refine wpAny_execs_cons (wpAny_If (wpAny_isTrue_value (MethodCall_ (Attribute_any_ (name_loc nn (v := y) m1 (hT A₁ _ _ _ true B' (hk0.trans G.hp) fun s₃ u G₃ => GM.endswith (callWith_builtin rfl (evalArgs_plain (spliced_cons ?_)))))))))
    refine Tuple_ (k := 0) ?_
    refine args_cons (wpAny_Constant_str (args_cons (wpAny_Constant_str (args_cons (wpAny_Constant_str (args_nil ?_))))))
    refine wpAny_newObj_type ?_ (by size_fits)
    have k₄ : Keep s₃.heap (s₃.heap.push (tupObj' #[.str "quoted-string" s₃.toks, .str "attribute" (s₃.toks + 1), .str "extended-attribute" (s₃.toks + 1 + 1)])) := fun b o e => Heap.get?_push_of_some _ e
    refine spliced_nil (ends_tuple (Heap.get?_push_size _ rfl) (wpAny_truthy_bool ?_))
    have kk : KeepT s.heap (s₃.heap.push (tupObj' #[.str "quoted-string" s₃.toks, .str "attribute" (s₃.toks + 1), .str "extended-attribute" (s₃.toks + 1 + 1)])) := (G.hp.trans G₃.hp).trans (KeepT.of_keep k₄)
    have GG : ∀ tk, Grown s { s₃ with heap := s₃.heap.push (tupObj' #[.str "quoted-string" s₃.toks, .str "attribute" (s₃.toks + 1), .str "extended-attribute" (s₃.toks + 1 + 1)]), toks := tk } := fun tk => (G.trans G₃).trans (Grown.of_heapT (KeepT.of_keep k₄))
    have n₄ := Ns.keepsT nn (G.hp.tab B.tab) (G₃.hp.trans (KeepT.of_keep k₄)) fun q => q
    rcases hres with ⟨he, hS⟩ | ⟨he, hV⟩
    · rw [show (Txt.endswith T "quoted-string" || Txt.endswith T "attribute" || Txt.endswith T "extended-attribute") = true from he, if_pos rfl]
      exact wpAny_execs_cons (wpAny_Return_some (Attribute_any_ (name_loc n₄ (v := y) m1 (hS A₁ _ _ _ true (hA₁.weaken (by omega)) (B.keepsT kk) (hk0.trans kk) fun y' s₄ G₄ ty => hP _ _ ((GG _).trans G₄) ty))))
    · rw [show (Txt.endswith T "quoted-string" || Txt.endswith T "attribute" || Txt.endswith T "extended-attribute") = false from he, if_neg Bool.false_ne_true]
      refine wpAny_execs_nil (wpAny_execs_cons (wpAny_Return_some (Attribute_any_ (name_loc n₄ (v := .ref x) m2 (hV A₁ _ _ _ true (hA₁.weaken (by omega)) (B.keepsT kk) (hk0.trans kk) fun y' s₄ G₄ ty => hP _ _ ((GG _).trans G₄) ty)))))
end Mine

end
section
open PySem PySem.W PyProof.Rows PySem.Calls
set_option maxRecDepth 100000
namespace Mine
/-- an exact list -/
def Ls (h : Heap) (l : Addr) (xs : List Value) : Prop := ∃ n, h.get? l = some (lsObj xs.toArray n)
theorem Ls.isList {h l xs} (x : Ls h l xs) : h.IsList l xs.toArray := let ⟨n, e⟩ := x; ⟨_, e, rfl, n, rfl⟩
theorem Ls.keeps {h h' l xs} (x : Ls h l xs) (k : Keep h h') : Ls h' l xs := let ⟨n, e⟩ := x; ⟨n, k _ _ e⟩
theorem Ls.keepsT {h h' l xs} (x : Ls h l xs) (T : Tab h) (k : KeepT h h') : Ls h' l xs := let ⟨n, e⟩ := x; ⟨n, KeepT.get k T e (.inl fun z => by cases z)⟩
theorem Ls.new {h : Heap} {xs : List Value} : Ls (h.push (lsObj xs.toArray 0)) h.objs.size xs := ⟨0, Heap.get?_push_size _ rfl⟩
section
variable {w : World} {A : Around} {s : Shared} {E : Value → Shared → Prop}
theorem push_keep {h : Heap} {o : Obj} : Keep h (h.push o) := fun _ _ e => Heap.get?_push_of_some _ e
theorem add_ll {l b : Addr} {xs ys : List Value} {Q : Value → Shared → Prop} (hl : Ls s.heap l xs) (hb : Ls s.heap b ys) (hz : xs.length + ys.length ≤ sizeLine)
    (hQ : ∀ h', Keep s.heap h' → Ls h' s.heap.objs.size (xs ++ ys) → Q (.ref s.heap.objs.size) { s with heap := h' }) : wpAny (MM w) A (binaryOp .Add (.ref l) (.ref b)) Q E s := by
  obtain ⟨n, hl⟩ := hl
  obtain ⟨n2, hb⟩ := hb
  have e : xs.toArray ++ ys.toArray = (xs ++ ys).toArray := by simp
  refine concat_meets ⟨_, hl, rfl⟩ ⟨_, hb, rfl⟩ noFill_list_add seq_list_add PySem.F.slot_list_add PySem.F.entry_list_add (PySem.F.args_list_add_2 _ _) (list_addW l b xs.toArray ys.toArray n n2 none none #[] #[] (by simpa using hz)) ⟨hl, hb, ?_⟩
  rw [e]
  exact hQ _ push_keep Ls.new
theorem mul_ln {l : Addr} {v : Value} {k : Nat} {z : Int} {u : Tok} {Q : Value → Shared → Prop} (hl : Ls s.heap l [v]) (hz : z = Int.ofNat k) (hk : k ≤ 1000)
    (hQ : ∀ h', Keep s.heap h' → Ls h' s.heap.objs.size (List.replicate k v) → Q (.ref s.heap.objs.size) { s with heap := h' }) : wpAny (MM w) A (binaryOp .Mult (.ref l) (.int z u)) Q E s := by
  obtain ⟨n, hl⟩ := hl
  have hzk : z.toNat = k := by rw [hz]; rfl
  have hz0 : 0 ≤ z := by rw [hz]; exact Int.natCast_nonneg k
  have hz1 : z ≤ 1000 := by rw [hz]; exact Int.ofNat_le.mpr hk
  have hsz : ([v].toArray : Array Value).size * z.toNat ≤ 1000 := by rw [hzk]; simpa using hk
  refine wpAny_binaryOp_repeat_ref (T := "list") (U := "int") (by decide) ⟨_, hl, rfl⟩ (fun s' => typeIs_int s' z u) noFill_list_mul PySem.F.fills_int_mul PySem.F.slot_int_rmul repeat_list PySem.F.slot_int_index.lookup
    (call_meets PySem.F.slot_int_rmul (typeIs_int s z u) PySem.F.entry_int_rmul (PySem.F.args_int_rmul_2 _ _) (int___rmul___int_list z u l [v].toArray n)
      ⟨hl, rfl, ⟨_, hl, rfl⟩, call_meets PySem.F.slot_list_mul ⟨_, hl, rfl⟩ PySem.F.entry_list_mul (PySem.F.args_list_mul_2 _ _)
        (AutoListH.list___mul___list_int_3 l [v].toArray n z u (by simp [Builtin.List.listFitsIndex]; omega) (by omega) (by simp [Builtin.List.listTooLong, sizeLine]; omega))
        ⟨hl, ?_⟩⟩)
  have e : List.foldl (fun x1 x2 => x1 ++ x2) (#[] : Array Value) (List.replicate (if ([v].toArray : Array Value).isEmpty = true then 0 else z.toNat) [v].toArray) = (List.replicate k v).toArray := by
    rw [if_neg (by simp), hzk, listMul_foldl]
    simp [lm_rep_flat_one]
  rw [e]
  exact hQ _ push_keep Ls.new
end
end Mine

end
section
open PySem PySem.W PyProof.Rows PySem.Calls
set_option maxRecDepth 100000
namespace Mine
abbrev ws2 : Str := ⟨#[9, 32]⟩
/-- a run of white space as the law makes it -/
def Cf (h : Heap) (c : Value) : Prop := ∃ v, TL h c 181 [v] ∧ Term h v 388 ws2 "fws"
theorem Cf.keepsT {h h' : Heap} {c : Value} (x : Cf h c) (T : Tab h) (k : KeepT h h') : Cf h' c := let ⟨v, a, b⟩ := x; ⟨v, a.keepsT T k, b.keepsT T k⟩
def CfN (lo : Nat) (h : Heap) (c : Value) : Prop := ∃ v, TLN lo h c 181 [v] ∧ TermN lo h v 388 ws2 "fws"
theorem CfN.cf {lo h c} (x : CfN lo h c) : Cf h c := let ⟨v, a, b⟩ := x; ⟨v, a.tl, b.term⟩
theorem TermN.weaken {lo lo' : Nat} {h v C t k} (x : TermN lo' h v C t k) (hl : lo ≤ lo') : TermN lo h v C t k :=
  let ⟨a, d, tk, es, n, tk', e, e1, e2, e3, l1, l2⟩ := x; ⟨a, d, tk, es, n, tk', e, e1, e2, e3, Nat.le_trans hl l1, Nat.le_trans hl l2⟩
theorem CfN.keepsX {lo : Nat} {h h' : Heap} {c} {X : Addr → Prop} (x : CfN lo h c) (T : Tab h) (q : KeepX X h h') (hX : ∀ b, X b → (b : Nat) < lo) : CfN lo h' c := let ⟨v, a, b⟩ := x; ⟨v, a.keepsX T q hX, b.keepsX T q hX⟩
theorem CfN.weaken {lo lo' : Nat} {h c} (x : CfN lo' h c) (hl : lo ≤ lo') : CfN lo h c := let ⟨v, a, b⟩ := x; ⟨v, a.weaken hl, b.weaken hl⟩
theorem str_cat1 (t : Str) : cat [t] = t := by
  rw [cat_cons, cat_nil]
  show (⟨t.cps ++ #[]⟩ : Str) = t
  simp
theorem shows_term388 {w h v t k} (hT : Tab h) (x : Term h v 388 t k) (ht : t.length ≤ sizeLine) : Shows w h 5 v t := shows_term hT x (by kernel_rfl) (by kernel_rfl) ht
theorem shows_term415 {w h v t k} (hT : Tab h) (x : Term h v 415 t k) (ht : t.length ≤ sizeLine) : Shows w h 5 v t := shows_term hT x (by kernel_rfl) (by kernel_rfl) ht
theorem shows_cf {w h c} (hT : Tab h) (x : Cf h c) : Shows w h 20 c ws2 := by
  obtain ⟨v, a, b⟩ := x
  have := shows_58 (w := w) (n := 5) (ts := [ws2]) hT a (lst_181 w) (by kernel_rfl) rfl (fun i v' t hv ht => by
    match i with
    | 0 => cases hv; cases ht; exact shows_term388 hT b (by rw [sizeLine_eq]; decide)
    | i + 1 => cases hv) (by rw [sizeLine_eq]; decide) (by rw [sizeLine_eq]; exact Nat.le_of_ble_eq_true rfl)
  rwa [str_cat1] at this
theorem vals_cf {w h c} (hT : Tab h) (x : Cf h c) : Vals w h 3 c ⟨#[32]⟩ := let ⟨_, a, _⟩ := x; vals_cfws hT a
theorem tt_cf {w h c} (hT : Tab h) (x : Cf h c) : TT w h c "cfws" := let ⟨_, a, _⟩ := x; tt_181 hT a

section
variable {w : World} {A : Around} {s : Shared} {E : Value → Shared → Prop}
set_option maxHeartbeats 1000000 in
theorem fn424 {k : Nat} {z : Int} {u : Tok} {P : Value → Shared → Prop} (hz : z = Int.ofNat k) (hk : k ≤ 1000) (hA : Small A 20) (B : Bs w s.heap)
    (hP : ∀ l c s', Grown s s' → CfN s.heap.objs.size s'.heap c → Ls s'.heap l (List.replicate k c) → P (.ref l) s') : Does w A (.call (.ref 424) ⟨[.int z u], []⟩) s P := by
  have ho : (KK w).lookup 424 = some _ := rfl
  refine does_def [("count", .int z u)] (hA.weaken (by omega)) B ho (by kernel_rfl) (BindsTo.of_eq rfl) (by decide) rfl rfl rfl rfl fun h₁ F B₁ => ?_
  generalize hAd : A.deeper _ = A₁
  have hA₁ : Small A₁ 19 := hAd ▸ hA.deeper
  clear hAd ho
  refine wpAny_execs_cons (wpAny_Return_some (wpAny_BinOp (List_ (args_cons ?_))))
  refine Call_ (name_gl B₁ (v := .ref 181) (by kernel_rfl) (callWith_K B₁.K (by kernel_rfl) (args_cons ?_)))
  refine List_ (args_cons ?_)
  refine Call_ (name_gl B₁ (v := .ref 388) (by kernel_rfl) (callWith_K B₁.K (by kernel_rfl) (args_cons (wpAny_Constant_str (args_cons (wpAny_Constant_str (args_nil ⟨B₁.K, ?_⟩)))))))
  refine wp_call_of (new_term (termC_388 w) (hA₁.weaken (by omega)) B₁ (by rw [sizeLine_eq]; decide) fun v s₂ G₂ tv => ?_)
  have B₂ := B₁.keepsT G₂.hp
  refine args_nil (wpAny_newObj_type ?_ (by size_fits))
  have B₃ := B₂.keeps (push_keep (o := lsObj [v].toArray 0))
  refine args_nil ⟨B₃.K, ?_⟩
  refine wp_call_of (new_tl (items := [v]) (tlC_181 w) (hA₁.weaken (by omega)) B₃ Ls.new.isList (by rw [sizeLine_eq]; exact Nat.le_of_ble_eq_true rfl) fun c s₄ G₄ tc => ?_)
  have B₄ := B₃.keepsT G₄.hp
  refine args_nil (wpAny_newObj_type ?_ (by size_fits))
  have F₄ : KeepT s.heap s₄.heap := (KeepT.of_keep F.keep).trans (G₂.hp.trans ((KeepT.of_keep push_keep).trans G₄.hp))
  have n₄ := Ns.keepsT F.ns B₁.tab (G₂.hp.trans ((KeepT.of_keep push_keep).trans G₄.hp)) fun q => q
  have l2 : s.heap.objs.size < s₂.heap.objs.size := (Ns.keepsT F.ns B₁.tab G₂.hp fun q => q).lt
  have l3 : s.heap.objs.size ≤ (s₂.heap.push (lsObj [v].toArray 0)).objs.size := by rw [Heap.size_push]; exact Nat.le_succ_of_le (Nat.le_of_lt l2)
  have hc : CfN s.heap.objs.size s₄.heap c := ⟨v, tc.weaken l3, ((tv.weaken (Nat.le_of_lt F.ns.lt)).keepsX (X := fun _ => False) B₂.tab (KeepT.of_keep push_keep) (fun _ h => h.elim)).keepsX (X := fun _ => False) B₃.tab G₄.hp (fun _ h => h.elim)⟩
  refine name_loc (n₄.keeps push_keep) (v := .int z u) rfl ?_
  refine mul_ln (Ls.new (xs := [c])) hz hk fun h₅ k₅ l₅ => ?_
  have kk : Keep s₄.heap h₅ := fun b o e => k₅ _ _ (push_keep _ _ e)
  refine hP _ c _ ?_ (hc.keepsX (X := fun _ => False) B₄.tab (KeepT.of_keep kk) (fun _ h => h.elim)) l₅
  have G := Grown.trans (Grown.of_heapT (s := s) (KeepT.of_keep F.keep)) (G₂.trans (Grown.trans (Grown.of_heapT (KeepT.of_keep push_keep)) G₄))
  exact ⟨F₄.trans (KeepT.of_keep kk), G.os, G.dr, G.gz, G.go, G.gb⟩
end
end Mine

end
section
open PySem PySem.W PyProof.Rows PySem.Calls
set_option maxRecDepth 100000
namespace Mine
abbrev compEnv (scope : Scope) (D : Addr) (env : Env) : Env := { scope, locals := D, globals := env.globals, cells := [], qual := env.qual, func := none, code := env.code, frame := env.frame, builtins := env.builtins }
theorem Ls.same {h h' l xs} {p : Addr} (x : Ls h l xs) (e : Heap.SameBut p h h') (hp : l ≠ p) : Ls h' l xs := let ⟨n, a⟩ := x; ⟨n, (e.2 l hp).trans a⟩
theorem iter_same {h h' : Heap} {I l p : Addr} {i : Nat} (x : h.IsListIter I l i) (e : Heap.SameBut p h h') (hp : I ≠ p) : h'.IsListIter I l i := let ⟨o, a, r⟩ := x; ⟨o, (e.2 I hp).trans a, r⟩
section
variable {w : World} {A : Around} {s : Shared} {E : Value → Shared → Prop}
theorem append_ls {a : Addr} {ys : List Value} {y : Value} {Q : Value → Shared → Prop} (ha : Ls s.heap a ys) (hz : ys.length ≤ sizeLine)
    (hQ : ∀ h', Ls h' a (ys ++ [y]) → Heap.SameBut a s.heap h' → Q .none { s with heap := h' }) : wpAny (MM w) A (call (.builtin "list.append") [.ref a, y]) Q E s := by
  obtain ⟨n, ha⟩ := ha
  refine wpAny_call_entry slot_list_append (show s.TypeIs (.ref a) "list" from ⟨_, ha, rfl⟩) entry_list_append ?_ (args_list_append _ _)
  have e : ∃ n', (s.heap.update a (Obj.mapSeq (·.push y))).get? a = some (lsObj (ys.toArray.push y) n') := ⟨_, Heap.get?_update_self _ ha rfl⟩
  have e2 : ys.toArray.push y = (ys ++ [y]).toArray := by simp
  rw [e2] at e
  show wpAny _ _ (updateSeq a (·.push y) >>= fun _ => ret .none) _ _ s
  exact wpAny_bind (wpAny_updateSeq ha rfl (wpAny_pure ⟨.none, rfl, hQ _ e (Heap.SameBut.update ..)⟩) (by rw [List.size_toArray]; exact hz) (by show (ys.toArray.push y).size ≤ _; rw [Array.size_push, List.size_toArray]; omega))

/-- what a comprehension walks over: its iterator at N, n items -/
structure Src (w : World) (A : Around) (N n : Nat) (val : Nat → Value → Prop) (It : Nat → Heap → Prop) : Prop where
  next : ∀ i (s : Shared) (Q : Option Value → Shared → Prop) E, i < n → It i s.heap → (∀ v h' tk, val i v → It (i + 1) h' → Heap.ExtBut N s.heap h' → Q (some v) { s with heap := h', toks := tk }) → wpAny (MM w) A (pyNext (.ref N)) Q E s
  stop : ∀ (s : Shared) (Q : Option Value → Shared → Prop) E, It n s.heap → (∀ h' tk, Heap.ExtBut N s.heap h' → Q none { s with heap := h', toks := tk }) → wpAny (MM w) A (pyNext (.ref N)) Q E s
  self : ∀ (s : Shared) (Q : Value → Shared → Prop) E, It 0 s.heap → Q (.ref N) s → wpAny (MM w) A (pyIter (.ref N)) Q E s
  keep : ∀ i h h', It i h → Tab h → N ∉ tabA → KeepX (fun b => b = N + 1 ∨ b = N + 2) h h' → It i h'

/-- over an exact list -/
def ItL (items : List Value) (N : Nat) (i : Nat) (h : Heap) : Prop := ∃ l : Nat, l < N ∧ h.IsListIter N l i ∧ Ls h l items
theorem src_list (hh : A.handled = none) (items : List Value) (N : Nat) : Src w A N items.length (fun i v => items[i]? = some v) (ItL items N) where
  next := fun i s Q E hi it hQ => by
    obtain ⟨l, hl, hit, n, hls⟩ := it
    have hv : items[i]? = some items[i] := List.getElem?_eq_getElem hi
    exact next_item hit ⟨_, _, hls, rfl⟩ hv fun h' it' e => hQ _ h' s.toks hv ⟨l, hl, it', n, (e.2 l (Nat.ne_of_lt hl)).trans hls⟩ e.extBut
  stop := fun s Q E it hQ => by
    obtain ⟨l, hl, hit, n, hls⟩ := it
    exact next_end hh hit ⟨_, _, hls, rfl⟩ (by simp) fun h' e => hQ h' s.toks e
  self := fun s Q E it q => by
    obtain ⟨l, hl, hit, _⟩ := it
    exact wpAny_pyIter_listiter hit q
  keep := fun i h h' it T _ k => by
    obtain ⟨l, hl, ⟨o, a, b, r⟩, n, hls⟩ := it
    exact ⟨l, hl, ⟨o, k.get T a (.inl fun z => by rw [b] at z; cases z) (by rintro (q | q); exact absurd q (Nat.ne_of_lt (Nat.lt_succ_self _)); exact absurd q (Nat.ne_of_lt (by omega))), b, r⟩, n,
      k.get T hls (.inl fun z => by cases z) (by rintro (q | q); exact absurd q (Nat.ne_of_lt (by omega)); exact absurd q (Nat.ne_of_lt (by omega)))⟩

/-- over the signs of a text -/
def ItS (w : World) (x : Str) (N : Nat) (i : Nat) (h : Heap) : Prop := ∃ St : Nat → Heap → Prop, (∀ A' : Around, A'.handled = none → Walks prg w A' N [N] [N] x.cps.size (SignAt x) St) ∧ St i h
theorem src_str (hh : A.handled = none) (x : Str) (N : Nat) : Src w A N x.cps.size (SignAt x) (ItS w x N) where
  next := fun i s Q E hi it hQ => by
    obtain ⟨St, W, st⟩ := it
    exact (W A hh).item i s Q E hi st fun v h' tk hv st' k => hQ v h' tk hv ⟨St, W, st'⟩ fun b o hb e => k b o (fun m => hb (List.mem_singleton.mp m)) e
  stop := fun s Q E it hQ => by
    obtain ⟨St, W, st⟩ := it
    exact (W A hh).done s Q E st fun h' tk k => hQ h' tk fun b o hb e => k b o (fun m => hb (List.mem_singleton.mp m)) e
  self := fun s Q E it q => by
    obtain ⟨St, W, st⟩ := it
    exact (W A hh).self 0 s Q E st q
  keep := fun i h h' it T hN k => by
    obtain ⟨St, W, st⟩ := it
    exact ⟨St, W, (W A hh).frame i h h' st fun b hb o e => by
      obtain rfl := List.mem_singleton.mp hb
      exact k.kp b o e hN (by rintro (q | q); exact absurd q (Nat.ne_of_lt (Nat.lt_succ_self _)); exact absurd q (Nat.ne_of_lt (by omega)))⟩

theorem comp_block {elt iter : Expr} {x : Str} {px : Pos} {scope : Scope} {pos : Pos} {env : Env} {n : Nat} {val : Nat → Value → Prop} {It : Nat → Nat → Heap → Prop} {F : Nat → Nat → Value → Heap → Prop} {RR : Value → Env → Result → Shared → Prop} {s₁ : Shared} {o : Obj} (B : Bs w s.heap)
    (hkind : scope.kind = .function) (hcell : ∀ x ∈ scope.names, x.2 ≠ .cell) (hx : scope.names.lookup x = some .local)
    (S : ∀ N, Src w A N n val (It N)) (G₁ : Grown s s₁) (it₀ : It s₁.heap.objs.size 0 (s₁.heap.push o)) (hz : n ≤ sizeLine)
    (hF : ∀ N i y h h', F N i y h → Tab h → KeepX (fun b => b = N ∨ b = N + 1 ∨ b = N + 2) h h' → F N i y h')
    (helt : ∀ (N i : Nat) v (s' : Shared) m (E' : Value → Shared → Prop), val i v → i < n → Grown s s' → N + 2 < s'.heap.objs.size → s'.heap.Ns (N + 2) m → m x = some v → wpAny (MM w) A (eval elt (compEnv scope (N + 2) env)) (fun y s'' => Grown s' s'' ∧ F N i y s''.heap) E' s')
    (hRR : ∀ (N : Nat) ys m s', s₁.heap.objs.size = N → Grown s₁ s' → Ls s'.heap (N + 1) ys → ys.length = n → (∀ (i : Nat) y, ys[i]? = some y → F N i y s'.heap) → s'.heap.Ns (N + 2) m → RR (.ref (N + 1)) (compEnv scope (N + 2) env) (.ok .next) s') :
    wpAny (MM w) A (newList []) (fun acc s₃ => wpAny (MM w) A (newFunctionEnv scope env.globals [] [] env.qual none .none (some env)) (fun cenv s₄ =>
      codeAny (MM w) A (.compStart (.ListComp elt [⟨.Name x px, iter, [], 0⟩] scope pos) 0 (.ref s₁.heap.objs.size) acc { cenv with scope := scope }) (RR acc { cenv with scope := scope }) s₄) E s₃) E { s₁ with heap := s₁.heap.push o } := by
  have B₁ := B.keepsT G₁.hp
  refine wpAny_newObj_type (wpAny_newFunctionEnv hcell (fun _ h => nomatch h) (fun h₄ n₄ e₄ => ?_) hkind)
  dsimp only at n₄ e₄ ⊢
  have hia : (s₁.heap.push o).objs.size = s₁.heap.objs.size + 1 := Heap.size_push ..
  have hsz : ((s₁.heap.push o).push (lsObj ([] : List Value).toArray 0)).objs.size = s₁.heap.objs.size + 2 := by rw [Heap.size_push, Heap.size_push]
  have ha₀ : ((s₁.heap.push o).push (lsObj ([] : List Value).toArray 0)).get? (s₁.heap.objs.size + 1) = some (lsObj ([] : List Value).toArray 0) := Heap.get?_push_at (by rw [Heap.size_push]) rfl
  have k₀ : Keep (s₁.heap.push o) ((s₁.heap.push o).push (lsObj ([] : List Value).toArray 0)) := push_keep
  rw [hsz] at n₄ e₄ ⊢
  have k₄ : ∀ b o', ((s₁.heap.push o).push (lsObj ([] : List Value).toArray 0)).get? b = some o' → h₄.get? b = some o' := fun b o' e => (e₄.2 b (ne_of_get e (Nat.le_of_eq hsz))).trans (push_keep _ _ e)
  rw [hia]
  have hk₁ : Keep s₁.heap h₄ := fun b o e => k₄ _ _ (k₀ _ _ (push_keep _ _ e))
  have hNt : s₁.heap.objs.size ∉ tabA := tab_lt B₁.tab (Nat.le_refl _) (Nat.le_refl _)
  have it₄ := (S s₁.heap.objs.size).keep 0 _ h₄ it₀ (B₁.tab.keeps push_keep) hNt (KeepT.of_keep fun b o e => k₄ _ _ (k₀ _ _ e))
  clear k₀ it₀ e₄ hia
  generalize hN : s₁.heap.objs.size = N at *
  have loop : codeAny (MM w) A (.compLoop (.ListComp elt [⟨.Name x px, iter, [], 0⟩] scope pos) 0 (.ref N) (.ref (N + 1)) (compEnv scope (N + 2) env)) (fun r s' => r = .ok .next ∧ ∃ ys m, Grown s₁ s' ∧ Ls s'.heap (N + 1) ys ∧ ys.length = n ∧ (∀ (i : Nat) y, ys[i]? = some y → F N i y s'.heap) ∧ s'.heap.Ns (N + 2) m) { s₁ with heap := h₄ } := by
    refine codeAny_compLoop_list (fun k s' => ∃ i ys m, k = n + 1 - i ∧ i ≤ n ∧ Grown s₁ s' ∧ It N i s'.heap ∧ Ls s'.heap (N + 1) ys ∧ ys.length = i ∧ (∀ (j : Nat) y, ys[j]? = some y → F N j y s'.heap) ∧ s'.heap.Ns (N + 2) m) ?_ (n + 1)
      ⟨0, [], _, rfl, Nat.zero_le _, ⟨KeepT.of_keep hk₁, rfl, rfl, Nat.le_refl _, fun _ _ => rfl, fun k hk v hv => (by rw [Array.getElem?_eq_none hk] at hv; cases hv)⟩, it₄, ⟨0, k₄ _ _ ha₀⟩, rfl, fun j y h => (by cases h), n₄⟩
    rintro k s' ⟨i, ys, m, rfl, hi, G, it, ha, hlen, hFy, hn⟩
    have T' : Tab s'.heap := G.hp.tab B₁.tab
    have above : ∀ {p : Nat}, N ≤ p → ∀ c P, (c, P) ∈ tabL → p ≠ c ∧ p ≠ P := fun hp => B₁.tab.above (by rw [hN]; exact hp)
    rcases Nat.lt_or_ge i n with hlt | hge
    · refine (S N).next i s' _ _ hlt it fun v h₁ tk hv it₁ e₁ => ?_
      refine wpAny_assign_Name (wpAny_storeName_local hx (hn.extBut e₁ (Nat.ne_of_gt (by omega))) (fun h₂ n₂ e₂ => ?_) (by simp [newEnv, hkind]))
      have G₂ : ∀ tk, Grown s₁ { s' with heap := h₂, toks := tk } := fun tk => ⟨store_keeps B₁.tab (KeepT.over2 (C := N) (I := N) B₁.tab G.hp (fun b o hb _ e => e₁ b o hb e) (Nat.le_of_eq hN) (Nat.le_of_eq hN)) (by rw [hN]; exact Nat.le_add_right _ _) e₂, G.os, G.dr, G.gz, G.go, G.gb⟩
      have T₁ : Tab h₁ := (KeepX.ext (X := fun b => b = N) e₁ rfl (above (Nat.le_refl _))).tab T'
      have T₂ : Tab h₂ := (G₂ 0).hp.tab B₁.tab
      have a₂ : Ls h₂ (N + 1) ys := (show Ls h₁ (N + 1) ys from let ⟨c, e⟩ := ha; ⟨c, e₁ _ _ (Nat.succ_ne_self N) e⟩).same e₂ (Nat.ne_of_lt (by show N + 1 < N + 2; omega))
      have i₂ : It N (i + 1) h₂ := (S N).keep _ _ _ it₁ T₁ hNt (KeepX.ext e₂.extBut (.inr rfl) (above (Nat.le_add_right _ _)))
      have f₂ : ∀ (j : Nat) y, ys[j]? = some y → F N j y h₂ := fun j y hy => hF N j y _ _ (hF N j y _ _ (hFy j y hy) T' (KeepX.ext e₁ (.inl rfl) (above (Nat.le_refl _)))) T₁ (KeepX.ext e₂.extBut (.inr (.inr rfl)) (above (Nat.le_add_right _ _)))
      refine wpAny_mono (helt N i v _ _ _ hv hlt (G₁.trans (G₂ _)) n₂.lt n₂ (if_pos rfl)) (fun y s₃ h => ?_) fun _ _ e => e
      obtain ⟨G₃, hy⟩ := h
      have T₃ : Tab s₃.heap := G₃.hp.tab T₂
      refine append_ls (a₂.keepsT T₂ G₃.hp) (by omega) fun h₅ a₅ e₅ => ?_
      have G₁₃ : Grown s₁ s₃ := (G₂ _).trans G₃
      have k₅ : KeepT s₁.heap h₅ := store_keeps B₁.tab G₁₃.hp (by rw [hN]; exact Nat.le_succ _) e₅
      have x₅ : ∀ {X : Addr → Prop}, X (N + 1) → KeepX X s₃.heap h₅ := fun hX => KeepX.ext e₅.extBut hX (above (Nat.le_succ _))
      refine ⟨n + 1 - (i + 1), by omega, i + 1, ys ++ [y], _, rfl, hlt, ⟨k₅, G₁₃.os, G₁₃.dr, G₁₃.gz, G₁₃.go, G₁₃.gb⟩, (S N).keep _ _ _ ((S N).keep _ _ _ i₂ T₂ hNt (KeepT.to G₃.hp)) T₃ hNt (x₅ (.inl rfl)), a₅, by rw [List.length_append, hlen]; rfl, fun j z hj => ?_, (Ns.keepsT n₂ T₂ G₃.hp fun q => q).sameBut e₅ (Nat.ne_of_gt (by show N + 1 < N + 2; omega))⟩
      rcases Nat.lt_or_ge j ys.length with hjl | hjg
      · rw [List.getElem?_append_left hjl] at hj
        exact hF N j z _ _ (hF N j z _ _ (f₂ j z hj) T₂ (KeepT.to G₃.hp)) T₃ (x₅ (.inr (.inl rfl)))
      · rw [List.getElem?_append_right hjg] at hj
        have hj0 : j - ys.length = 0 := by
          rcases Nat.eq_zero_or_pos (j - ys.length) with h | h
          · exact h
          · rw [List.getElem?_eq_none (by simp; omega)] at hj; cases hj
        rw [hj0] at hj
        cases hj
        obtain rfl : j = i := by omega
        exact hF N j y _ _ hy T₃ (x₅ (.inr (.inl rfl)))
    · obtain rfl : i = n := by omega
      refine (S N).stop s' _ _ it fun h₁ tk₁ he₁ => ⟨rfl, ys, m, ?_, ?_, hlen, fun j y hy => hF N j y _ _ (hFy j y hy) T' (KeepX.ext he₁ (.inl rfl) (above (Nat.le_refl _))), hn.extBut he₁ (Nat.ne_of_gt (by omega))⟩
      · exact ⟨KeepT.over2 (C := N) (I := N) B₁.tab G.hp (fun b o hb _ e => he₁ b o hb e) (Nat.le_of_eq hN) (Nat.le_of_eq hN), G.os, G.dr, G.gz, G.go, G.gb⟩
      · obtain ⟨c, e⟩ := ha
        exact ⟨c, he₁ _ _ (Nat.succ_ne_self N) e⟩
  have fin : ∀ (r : Result) (s' : Shared), (r = .ok .next ∧ ∃ ys m, Grown s₁ s' ∧ Ls s'.heap (N + 1) ys ∧ ys.length = n ∧ (∀ (i : Nat) y, ys[i]? = some y → F N i y s'.heap) ∧ s'.heap.Ns (N + 2) m) → RR (.ref (N + 1)) (compEnv scope (N + 2) env) r s' := by
    rintro r s' ⟨rfl, ys, m, G, ha, hlen, hf, hn⟩
    exact hRR N ys m s' rfl G ha hlen hf hn
  exact codeAny_compStart_list (codeAny_mono loop fin) ((S N).self _ _ _ it₄ (codeAny_mono loop fin))

theorem comp_src {elt iter : Expr} {x : Str} {px : Pos} {scope : Scope} {pos : Pos} {env : Env} {n : Nat} {val : Nat → Value → Prop} {It : Nat → Nat → Heap → Prop} {F : Nat → Nat → Value → Heap → Prop} {Q : Value → Shared → Prop} (B : Bs w s.heap)
    (hfree : ∀ x ∈ scope.names, x.2 ≠ .free) (hkind : scope.kind = .function) (hnames : ∀ x ∈ scope.names, x.2 = .local → scope.names.lookup x.1 = some .local) (hcell : ∀ x ∈ scope.names, x.2 ≠ .cell) (hx : scope.names.lookup x = some .local)
    (S : ∀ N, Src w A N n val (It N))
    (hsrc : ∀ (Q' : Value → Shared → Prop) E', (∀ s₁ o, Grown s s₁ → It s₁.heap.objs.size 0 (s₁.heap.push o) → Q' (.ref s₁.heap.objs.size) { s₁ with heap := s₁.heap.push o }) → wpAny (MM w) A (eval iter env) (fun y s₁ => wpAny (MM w) A (pyIter y) Q' E' s₁) E' s) (hz : n ≤ sizeLine)
    (hF : ∀ N i y h h', F N i y h → Tab h → KeepX (fun b => b = N ∨ b = N + 1 ∨ b = N + 2) h h' → F N i y h')
    (helt : ∀ (N i : Nat) v (s' : Shared) m (E' : Value → Shared → Prop), val i v → i < n → Grown s s' → N + 2 < s'.heap.objs.size → s'.heap.Ns (N + 2) m → m x = some v → wpAny (MM w) A (eval elt (compEnv scope (N + 2) env)) (fun y s'' => Grown s' s'' ∧ F N i y s''.heap) E' s')
    (hQ : ∀ (N : Nat) ys s', Grown s s' → Ls s'.heap (N + 1) ys → ys.length = n → (∀ (i : Nat) y, ys[i]? = some y → F N i y s'.heap) → Q (.ref (N + 1)) s')
    (hs : ∀ x, foldedSetIterable iter env x = pure x := by intro _; rfl) :
    wpAny (MM w) A (eval (.ListComp elt [⟨.Name x px, iter, [], 0⟩] scope pos) env) Q E s := by
  refine wpAny_ListComp hfree hkind hnames (hsrc _ _ fun s₁ o G₁ it₀ => ?_) hs
  have B₁ := B.keepsT G₁.hp
  refine comp_block (RR := fun acc cenv r s' => ∃ m, s'.heap.Ns cenv.locals m ∧ ∀ h', Heap.SameBut cenv.locals s'.heap h' → match r with | .ok _ => Q acc { s' with heap := h' } | .error x => wpAny (MM w) A (passOn "comprehension.variables-let-go" x cenv) Q E { s' with heap := h' }) B hkind hcell hx S G₁ it₀ hz hF helt fun N ys m s' hN G ha hlen hf hn => ?_
  refine ⟨m, hn, fun h' e => ?_⟩
  have T' : Tab s'.heap := G.hp.tab B₁.tab
  exact hQ N ys _ (G₁.trans ⟨store_keeps B₁.tab G.hp (by rw [hN]; exact Nat.le_add_right _ _) e, G.os, G.dr, G.gz, G.go, G.gb⟩) (ha.same e (Nat.ne_of_lt (by show N + 1 < N + 2; omega))) hlen fun i y hy => hF N i y _ _ (hf i y hy) T' (KeepX.ext e.extBut (.inr (.inr rfl)) (B₁.tab.above (by rw [hN]; exact Nat.le_add_right _ _)))

/-- a comprehension given to a name -/
theorem comp_assign {elt iter : Expr} {x y : Str} {px py : Pos} {scope : Scope} {pos spos : Pos} {env : Env} {n : Nat} {val : Nat → Value → Prop} {It : Nat → Nat → Heap → Prop} {F : Nat → Nat → Value → Heap → Prop} {Q : Flow → Shared → Prop} {L : Nat} {m₀ : Str → Option Value} (B : Bs w s.heap)
    (hsw : swapsWith (.ListComp elt [⟨.Name x px, iter, [], 0⟩] scope pos) (some (.Name y py)) spos.line env = pure true)
    (hfree : ∀ x ∈ scope.names, x.2 ≠ .free) (hkind : scope.kind = .function) (hnames : ∀ x ∈ scope.names, x.2 = .local → scope.names.lookup x.1 = some .local) (hcell : ∀ x ∈ scope.names, x.2 ≠ .cell) (hx : scope.names.lookup x = some .local)
    (S : ∀ N, Src w A N n val (It N))
    (hsrc : ∀ (Q' : Value → Shared → Prop) E', (∀ s₁ o, Grown s s₁ → It s₁.heap.objs.size 0 (s₁.heap.push o) → Q' (.ref s₁.heap.objs.size) { s₁ with heap := s₁.heap.push o }) → wpAny (MM w) A (eval iter env) (fun y s₁ => wpAny (MM w) A (pyIter y) Q' E' s₁) E' s) (hz : n ≤ sizeLine)
    (hF : ∀ N i y h h', F N i y h → Tab h → KeepX (fun b => b = N ∨ b = N + 1 ∨ b = N + 2) h h' → F N i y h')
    (helt : ∀ (N i : Nat) v (s' : Shared) m (E' : Value → Shared → Prop), val i v → i < n → Grown s s' → N + 2 < s'.heap.objs.size → s'.heap.Ns (N + 2) m → m x = some v → wpAny (MM w) A (eval elt (compEnv scope (N + 2) env)) (fun y s'' => Grown s' s'' ∧ F N i y s''.heap) E' s')
    (hns : s.heap.Ns L m₀) (hL : env.locals = L) (hy : env.kindOf y = some .local) (hp : (env.scope.kind == .class || (env.scope.kind == .module && env.locals != env.globals)) = false) (hLt : ∀ c P, (c, P) ∈ tabL → L ≠ c ∧ L ≠ P)
    (hFL : ∀ N i y h h', L < N → F N i y h → Tab h → KeepX (fun b => b = L) h h' → F N i y h')
    (hQ : ∀ (a : Nat) ys s₂, (∃ s', Grown s s' ∧ KeepX (fun b => b = L) s.heap s₂.heap ∧ s₂.os = s'.os ∧ s₂.gens = s'.gens) → Ls s₂.heap a ys → ys.length = n → (∃ N, L < N ∧ ∀ (i : Nat) y, ys[i]? = some y → F N i y s₂.heap) → s₂.heap.Ns L (fun z => if z = y then some (.ref a) else m₀ z) → Q .next s₂)
    (hs : ∀ x, foldedSetIterable iter env x = pure x := by intro _; rfl) :
    wpAny (MM w) A (exec (.Assign [.Name y py] (.ListComp elt [⟨.Name x px, iter, [], 0⟩] scope pos) spos) env) Q E s := by
  rw [exec_Assign_Name_used _ _ _ _ hsw]
  refine wpAny_bind (wpAny_standAt (wpAny_bind ?_))
  refine wpAny_bind (wpAny_mono (wpAny_comprehension_use (Q := fun _ s' => Q .next s') rfl hs hfree hkind hnames (hsrc _ _ fun s₁ o G₁ it₀ => ?_)) (fun _ s' hq => wpAny_pure (wpAny_pure hq)) fun _ _ e => e)
  have B₁ := B.keepsT G₁.hp
  have n₁ := Ns.keepsT hns B.tab G₁.hp fun q => q
  refine comp_block (RR := fun acc cenv r s' => match r with
      | .ok _ => wpAny (MM w) A (assign (.Name y py) env acc) (fun _ s'' => ∃ m, s''.heap.Ns cenv.locals m ∧ ∀ h', Heap.SameBut cenv.locals s''.heap h' → Q .next { s'' with heap := h' }) E s'
      | .error x => ∃ m, s'.heap.Ns cenv.locals m ∧ ∀ h', Heap.SameBut cenv.locals s'.heap h' → wpAny (MM w) A (passOn "comprehension.variables-let-go" x cenv) (fun _ s' => Q .next s') E { s' with heap := h' }) B hkind hcell hx S G₁ it₀ hz hF helt fun N ys m s' hN G ha hlen hf hn => ?_
  have hLN : L < N := hN ▸ n₁.lt
  have T' : Tab s'.heap := G.hp.tab B₁.tab
  have n' : s'.heap.Ns L m₀ := Ns.keepsT n₁ B₁.tab G.hp fun q => q
  subst hL
  refine wpAny_assign_Name (wpAny_storeName_local hy n' (fun h₂ n₂ e₂ => ?_) hp)
  have T₂ : Tab h₂ := (KeepX.ext (X := fun b => b = env.locals) e₂.extBut rfl hLt).tab T'
  refine ⟨m, hn.sameBut e₂ (Nat.ne_of_gt (by show (env.locals : Nat) < N + 2; exact Nat.lt_of_lt_of_le hLN (Nat.le_add_right _ _))), fun h₃ e₃ => ?_⟩
  have above : ∀ c P, (c, P) ∈ tabL → N + 2 ≠ c ∧ N + 2 ≠ P := B₁.tab.above (by rw [hN]; exact Nat.le_add_right _ _)
  have nl2 : (env.locals : Nat) ≠ N + 2 := Nat.ne_of_lt (Nat.lt_of_lt_of_le hLN (Nat.le_add_right _ _))
  have nl1 : N + 1 ≠ (env.locals : Nat) := Nat.ne_of_gt (Nat.lt_of_lt_of_le hLN (Nat.le_succ _))
  refine hQ (N + 1) ys _ ⟨s', G₁.trans G, ⟨fun b o e n hx => ?_, fun c P hm => ?_⟩, rfl, rfl⟩ ((ha.same e₂ nl1).same e₃ (Nat.ne_of_lt (by show N + 1 < N + 2; omega))) hlen ⟨N, hLN, fun i z hz => hF N i z _ _ (hFL N i z _ _ hLN (hf i z hz) T' (KeepX.ext e₂.extBut rfl hLt)) T₂ (KeepX.ext e₃.extBut (.inr (.inr rfl)) above)⟩ (n₂.sameBut e₃ nl2)
  · have hb : b ≠ N + 2 := by
      have h1 := Heap.lt_size (G₁.hp.kp b o e n fun q => q)
      rw [hN] at h1
      exact Nat.ne_of_lt (Nat.lt_of_lt_of_le h1 (Nat.le_add_right _ _))
    exact (e₃.2 b hb).trans ((e₂.2 b hx).trans ((G₁.trans G).hp.kp b o e n fun q => q))
  · exact ((((G₁.trans G).hp).gr c P hm).trans ((KeepX.ext (X := fun b => b = env.locals) e₂.extBut rfl hLt).gr c P hm)).trans ((KeepX.ext (X := fun b => b = N + 2) e₃.extBut rfl above).gr c P hm)
end
end Mine

end
section
open PySem PySem.W PyProof.Rows PySem.Calls
set_option maxRecDepth 100000
namespace Mine
theorem kind_strNe : builtinKind "str.__ne__" = some .slot := by decide +kernel
theorem split_strNe : splitId "str.__ne__" = some ("str", "__ne__") := by decide +kernel
section
variable {w : World} {A : Around} {s : Shared} {E : Value → Shared → Prop}
theorem does_ne {a d : Addr} {t x : Str} {tk u : Tok} {P : Value → Shared → Prop} (B : Bs w s.heap) (ha : s.heap.get? a = some (termObj 415 d t tk)) (hP : P (.bool (t.cps.toList != x.cps.toList)) s) :
    Does w A (.call (.builtin "str.__ne__") ⟨[.ref a, .str x u], []⟩) s P := by
  have t1 : Looks (MM w) s.heap (typeOf (.ref a)) (.ref 415) := looks_type ha rfl
  have t2 : Looks (MM w) s.heap (isInstance (.ref a) (.type "str")) true := t1.andThen (looks_mroIn B.K (by kernel_rfl))
  refine does_builtin PySem.F.slot_str_ne.plain PySem.F.entry_str_ne (fun Q' E'' q' => @check_slot (MM w) _ _ _ "str.__ne__" "str" "__ne__" (.ref a) [.str x u] [] _ kind_strNe split_strNe t2 (PySem.F.args_str_ne_2 _ _) q') ?_
  obtain ⟨hh, g, dr, tks, os⟩ := s
  dsimp only at ha hP
  have t3 : Looks (MM w) hh (asStr? (.ref a)) (some t) := (Looks.ld ha).andThen .now
  unfold Builtin.«str.__ne__»
  repeat lk
  exact ⟨_, rfl, hP⟩
theorem ne_txt {v : Value} {t x : Str} {u : Tok} {Q : Value → Shared → Prop} (hA : Small A 3) (B : Bs w s.heap) (hv : Txt s.heap v t) (hQ : Q (.bool (t.cps.toList != x.cps.toList)) s) : wpAny (MM w) A (compareOp .NotEq v (.str x u)) Q E s := by
  rcases hv with ⟨u', rfl⟩ | ⟨k, a, d, tk, es, n, tk', rfl, e1, _, _⟩
  · exact PySem.P.ne_str hQ
  · have hcall : ∀ {A' : Around} {Q' : Value → Shared → Prop} {E'}, Q' (.bool (t.cps.toList != x.cps.toList)) s → wpAny (MM w) A' (call (.builtin "str.__ne__") ([Value.ref a] ++ [.str x u])) Q' E' s := @fun A1 Q1 E1 q => wp_call_of (does_ne B e1 q)
    have hu : A.units < cLine := hA.units
    obtain ⟨hh, g, dr, tks, os⟩ := s
    dsimp only at e1 hQ B hcall
    have t1 : Looks (MM w) hh (typeOf (.ref a)) (.ref 415) := looks_type e1 rfl
    have t2 : Looks (MM w) hh (isSubtype (.type "str") (.ref 415)) false := look B (by kernel_rfl)
    have t3 : Looks (MM w) hh (typeLookup (.ref 415) "__ne__") (some (.builtin "str.__ne__")) := looks_findIn B.K (by kernel_rfl)
    have t4 : Looks (MM w) hh (bindSpecial (.builtin "str.__ne__") (.ref a)) (.builtin "str.__ne__", [.ref a]) := Looks.of_pure (PySem.F.slot_str_ne.bind _)
    have ts : Looks (MM w) hh (specialOf (.ref a) "__ne__") (some (.builtin "str.__ne__")) := t1.andThen t3
    have tb := looks_bound ts t4
    show wpAny _ _ (richCompare .NotEq (.ref a) (.str x u)) _ _ _
    unfold richCompare
    repeat (first | (with_reducible refine wpAny_cRoomFor hu ?_) | (with_reducible refine hcall ?_) | lk)
    exact hQ
end
end Mine

end
section
open PySem PySem.W PyProof.Rows PySem.Calls
set_option maxRecDepth 100000
namespace Mine
/-- a fact of each value and its text -/
def Rel (P : Value → Str → Prop) (xs : List Value) (ts : List Str) : Prop := xs.length = ts.length ∧ ∀ (i : Nat) v t, xs[i]? = some v → ts[i]? = some t → P v t
theorem Rel.one {P : Value → Str → Prop} {v t} (h : P v t) : Rel P [v] [t] := ⟨rfl, fun i v' t' a b => by
  match i with
  | 0 => cases a; cases b; exact h
  | i + 1 => cases a⟩
theorem Rel.rep {P : Value → Str → Prop} {v t} (n : Nat) (h : P v t) : Rel P (List.replicate n v) (List.replicate n t) := ⟨by simp, fun i v' t' a b => by
  rw [List.getElem?_replicate] at a b
  split at a
  · rename_i hi
    rw [if_pos hi] at b
    cases a; cases b; exact h
  · cases a⟩
theorem Rel.app {P : Value → Str → Prop} {xs ys ts us} (h : Rel P xs ts) (h' : Rel P ys us) : Rel P (xs ++ ys) (ts ++ us) := ⟨by rw [List.length_append, List.length_append, h.1, h'.1], fun i v t a b => by
  rcases Nat.lt_or_ge i xs.length with hi | hi
  · rw [List.getElem?_append_left hi] at a
    rw [List.getElem?_append_left (by rw [← h.1]; exact hi)] at b
    exact h.2 i v t a b
  · rw [List.getElem?_append_right hi] at a
    rw [List.getElem?_append_right (by rw [← h.1]; exact hi), ← h.1] at b
    exact h'.2 _ v t a b⟩
theorem Rel.mono {P R : Value → Str → Prop} {xs ts} (h : Rel P xs ts) (k : ∀ v t, P v t → R v t) : Rel R xs ts := ⟨h.1, fun i v t a b => k v t (h.2 i v t a b)⟩
theorem Rel.monoT {P R : Value → Str → Prop} {xs ts} (h : Rel P xs ts) (k : ∀ v t, t ∈ ts → P v t → R v t) : Rel R xs ts := ⟨h.1, fun i v t a b => k v t (List.mem_of_getElem? b) (h.2 i v t a b)⟩

theorem str_append_cps (x y : Str) : (x ++ y) = ⟨x.cps ++ y.cps⟩ := rfl
theorem cat_app (l r : List Str) : cat (l ++ r) = cat l ++ cat r := by
  show (⟨_⟩ : Str) = ⟨(cat l).cps ++ (cat r).cps⟩
  simp [cat]
def rep (n : Nat) (t : Str) : Str := cat (List.replicate n t)
theorem rep_add (a b : Nat) (t : Str) : rep (a + b) t = rep a t ++ rep b t := by
  unfold rep; rw [← cat_app, List.replicate_append_replicate]
theorem str_assoc (x y z : Str) : x ++ y ++ z = x ++ (y ++ z) := by
  show (⟨(x.cps ++ y.cps) ++ z.cps⟩ : Str) = ⟨x.cps ++ (y.cps ++ z.cps)⟩
  rw [Array.append_assoc]
theorem len_app (x y : Str) : (x ++ y).length = x.length + y.length := by
  show (x.cps ++ y.cps).size = _
  rw [Array.size_append]; rfl
theorem rep_len (n : Nat) (t : Str) : (rep n t).length = n * t.length := by
  unfold rep
  rw [cat_length]
  induction n with
  | zero => simp
  | succ n ih => simp [List.replicate_succ] at ih ⊢; rw [Nat.succ_mul]; omega
theorem cat_mem_le {ts : List Str} {t : Str} (h : t ∈ ts) : t.length ≤ (cat ts).length := by
  rw [cat_length]
  induction ts with
  | nil => cases h
  | cons x r ih =>
    rw [List.map_cons, List.sum_cons]
    rcases List.mem_cons.mp h with rfl | h
    · exact Nat.le_add_right _ _
    · exact Nat.le_trans (ih h) (Nat.le_add_left _ _)

/-- the kids of one row: white, one thing, white -/
def row (c b : Nat) (cw y cb : Value) : List Value := List.replicate c cw ++ [y] ++ List.replicate b cb
def rowT (c b : Nat) (t m : Str) : List Str := List.replicate c t ++ [m] ++ List.replicate b t
theorem Rel.row {P : Value → Str → Prop} {c b : Nat} {cw y cb : Value} {t m : Str} (h1 : P cw t) (h2 : P y m) (h3 : P cb t) : Rel P (Mine.row c b cw y cb) (rowT c b t m) := ((Rel.rep c h1).app (.one h2)).app (.rep b h3)
theorem cat_row (c b : Nat) (t m : Str) : cat (rowT c b t m) = rep c t ++ m ++ rep b t := by
  unfold rowT; rw [cat_app, cat_app, str_cat1]; rfl
theorem row_len (c b : Nat) (cw y cb : Value) : (row c b cw y cb).length = c + 1 + b := by simp [row]; omega
theorem rowT_mem {c b : Nat} {t m u : Str} (h : u ∈ rowT c b t m) : u = t ∨ u = m := by
  simp only [rowT, List.mem_append, List.mem_replicate, List.mem_singleton] at h
  rcases h with (⟨_, h⟩ | h) | ⟨_, h⟩ <;> simp [h]

abbrev sp : Str := ⟨#[32]⟩
/-- what the law asks of the object value -/
structure Out (w : World) (h : Heap) (v : Value) (a b c : Nat) (mid W : Str) : Prop where
  shows : Shows w h 60 v (rep (a + c) ws2 ++ mid ++ rep b ws2)
  strip : Stripped w h 60 v W
  vals : Vals w h 60 v (rep (a + c) sp ++ W ++ rep b sp)

section
variable {w : World} {h : Heap} {a b c : Nat} {ca cw cb kid inner value : Value} {W mid : Str} {xs : List Value} {ts : List Str}
/-- value over a kid whose three texts are known -/
theorem out_value (hT : Tab h) (hab : a ≤ 1) (hb : b ≤ 1) (hc : c ≤ 1) (hW : W.length ≤ 1000) (hmid : mid.length ≤ 3000) (hca : Cf h ca) (hv : TL h value 284 (row a 0 ca kid ca)) {T : Str} (hTT : TT w h kid T) (hTn : T ≠ "cfws") (hTe : ends T = true)
    (hs : Shows w h 35 kid (rep c ws2 ++ mid ++ rep b ws2)) (hS : Stripped w h 32 kid W) (hV : Vals w h 31 kid (rep c sp ++ W ++ rep b sp)) : Out w h value a b c mid W where
  shows := by
    have hl : (rep c ws2 ++ mid ++ rep b ws2).length ≤ 3004 := by
      rw [len_app, len_app, rep_len, rep_len]
      have : ws2.length = 2 := rfl
      rw [this]; omega
    have hl2 : (cat (rowT a 0 ws2 (rep c ws2 ++ mid ++ rep b ws2))).length ≤ 3010 := by
      rw [cat_row, len_app, len_app, rep_len, rep_len]
      have : ws2.length = 2 := rfl
      rw [this]; omega
    have R : Rel (Shows w h 35) (row a 0 ca kid ca) (rowT a 0 ws2 (rep c ws2 ++ mid ++ rep b ws2)) := .row ((shows_cf hT hca).weaken (by omega)) hs ((shows_cf hT hca).weaken (by omega))
    have := shows_58 hT hv (lst_284 w) (by kernel_rfl) R.1 R.2 (by rw [sizeLine_eq]; omega) (by rw [row_len, sizeLine_eq]; omega)
    rw [cat_row] at this
    have e : rep a ws2 ++ (rep c ws2 ++ mid ++ rep b ws2) ++ rep 0 ws2 = rep (a + c) ws2 ++ mid ++ rep b ws2 := by
      rw [rep_add]
      simp only [str_append_cps, rep, List.replicate_zero, cat_nil]
      simp
    rw [e] at this
    exact this.weaken (by omega)
  strip := by
    obtain ⟨x, d, es, n, ep, rfl, e1, e2, _⟩ := hv
    have S : Stripped w h (44 + 1) (.ref x) W := stripped_of (n := 44) hT (inst_tl e1 e2) dict_solid (ps_284 w) (lg_284 w) fun A s P hA B hk hP => by
      have e1' := KeepT.get hk hT e1 (.inl fun z => by cases z)
      match a, hab, e1' with
      | 0, _, e1' => exact fn280 (n := 32) (y0 := kid) hk (li_284 w) hA B e1' rfl hTT (.inl ⟨hTn, rfl⟩) hTT (.inl ⟨hTe, hS⟩) hP
      | 1, _, e1' => exact fn280 (n := 32) (y0 := ca) hk (li_284 w) hA B e1' rfl (tt_cf hT hca) (.inr ⟨rfl, rfl⟩) hTT (.inl ⟨hTe, hS⟩) hP
    exact fun A s Q E e h1 => S A s Q E e (h1.weaken (by omega))
  vals := by
    have hl : (rep c sp ++ W ++ rep b sp).length ≤ 1002 := by
      rw [len_app, len_app, rep_len, rep_len]
      have : sp.length = 1 := rfl
      rw [this]; omega
    have hl2 : (cat (rowT a 0 sp (rep c sp ++ W ++ rep b sp))).length ≤ 1010 := by
      rw [cat_row, len_app, len_app, rep_len, rep_len]
      have : sp.length = 1 := rfl
      rw [this]; omega
    have R : Rel (Vals w h 31) (row a 0 ca kid ca) (rowT a 0 sp (rep c sp ++ W ++ rep b sp)) := .row ((vals_cf hT hca).weaken (by omega)) hV ((vals_cf hT hca).weaken (by omega))
    have V := vals_73 hT hv (lst_284 w) (pc_284 w) (lg_284 w) R.1 R.2 (fun t ht => by rcases rowT_mem ht with rfl | rfl; (rw [sizeLine_eq]; decide); rw [sizeLine_eq]; omega) (by rw [sizeLine_eq]; omega) (by rw [row_len, sizeLine_eq]; omega)
    rw [cat_row] at V
    have e : rep a sp ++ (rep c sp ++ W ++ rep b sp) ++ rep 0 sp = rep (a + c) sp ++ W ++ rep b sp := by
      rw [rep_add]
      simp only [str_append_cps, rep, List.replicate_zero, cat_nil]
      simp
    rw [e] at V
    exact V.weaken (by omega)

/-- the kid of a row: its str, its value -/
theorem kid_shows {C : Addr} (hT : Tab h) (hb : b ≤ 1) (hc : c ≤ 1) (hmid : mid.length ≤ 3000) (hcw : Cf h cw) (hcb : Cf h cb) (hk : TL h kid C (row c b cw inner cb)) (L : Lst w C) (hf : findIn (KK w) (.ref C) "__str__" = some (some (.ref 58)))
    (hi : Shows w h 20 inner mid) : Shows w h 35 kid (rep c ws2 ++ mid ++ rep b ws2) := by
  have R : Rel (Shows w h 20) (row c b cw inner cb) (rowT c b ws2 mid) := .row (shows_cf hT hcw) hi (shows_cf hT hcb)
  have := shows_58 hT hk L hf R.1 R.2 (by
    rw [cat_row, len_app, len_app, rep_len, rep_len, sizeLine_eq]
    have : ws2.length = 2 := rfl
    rw [this]; omega) (by rw [row_len, sizeLine_eq]; omega)
  rwa [cat_row] at this
theorem kid_vals {C : Addr} (hT : Tab h) (hb : b ≤ 1) (hc : c ≤ 1) (hW : W.length ≤ 1000) (hcw : Cf h cw) (hcb : Cf h cb) (hk : TL h kid C (row c b cw inner cb)) (L : Lst w C) (PC : PropC w C "value" 74 73) (G : LstG w C)
    (hi : Vals w h 18 inner W) : Vals w h 31 kid (rep c sp ++ W ++ rep b sp) := by
  have R : Rel (Vals w h 18) (row c b cw inner cb) (rowT c b sp W) := .row ((vals_cf hT hcw).weaken (by omega)) hi ((vals_cf hT hcb).weaken (by omega))
  have := vals_73 hT hk L PC G R.1 R.2 (fun t ht => by rcases rowT_mem ht with rfl | rfl; (rw [sizeLine_eq]; decide); rw [sizeLine_eq]; omega) (by
    rw [cat_row, len_app, len_app, rep_len, rep_len, sizeLine_eq]
    have : sp.length = 1 := rfl
    rw [this]; omega) (by rw [row_len, sizeLine_eq]; omega)
  rwa [cat_row] at this
theorem row_before {c b : Nat} {cw y cb v : Value} {i : Nat} (hi : i < c) (hv : (row c b cw y cb)[i]? = some v) : v = cw := by
  rw [row, List.append_assoc, List.getElem?_append_left (by simpa using hi), List.getElem?_replicate, if_pos hi] at hv
  exact (Option.some.inj hv).symm
theorem row_at {c b : Nat} {cw y cb : Value} : (row c b cw y cb)[c]? = some y := by
  rw [row, List.append_assoc, List.getElem?_append_right (by simp)]
  simp

/-- terminals in a row -/
def Terms (h : Heap) (xs : List Value) (ts : List Str) (k : Str) : Prop := Rel (fun v t => Term h v 415 t k) xs ts

/-- the bare kind -/
theorem out_bare (hT : Tab h) (ha : a ≤ 1) (hb : b ≤ 1) (hc : c ≤ 1) (hW : (cat ts).length ≤ 1000) (hn : xs.length ≤ 1000) (hca : Cf h ca) (hcw : Cf h cw) (hcb : Cf h cb) (hx : Terms h xs ts "ptext") (hi : TL h inner 244 xs) (hk : TL h kid 217 (row c b cw inner cb)) (hv : TL h value 284 (row a 0 ca kid ca)) :
    Out w h value a b c (⟨#[34]⟩ ++ mq (cat ts) ++ ⟨#[34]⟩) (cat ts) := by
  have hts : ∀ t ∈ ts, t.length ≤ sizeLine := fun t ht => Nat.le_trans (cat_mem_le ht) (by rw [sizeLine_eq]; omega)
  have R : Rel (Shows w h 5) xs ts := hx.monoT fun v t ht q => shows_term415 hT q (hts t ht)
  have hmid : (⟨#[34]⟩ ++ mq (cat ts) ++ ⟨#[34]⟩ : Str).length ≤ 3000 := by
    rw [len_app, len_app]
    have := mq_len (cat ts)
    have e : (⟨#[34]⟩ : Str).length = 1 := rfl
    rw [e]; omega
  have Si : Shows w h 20 inner (⟨#[34]⟩ ++ mq (cat ts) ++ ⟨#[34]⟩) := shows_233 hT hi R.1 R.2 (by omega) (by rw [sizeLine_eq]; omega)
  have Vi : Vals w h 18 inner (cat ts) := vals_240 hT hi R.1 R.2 (by rw [sizeLine_eq]; omega) (by rw [sizeLine_eq]; omega)
  refine out_value hT ha hb hc hW hmid hca hv (tt_217 hT hk) (by decide) (by decide +kernel) (kid_shows hT hb hc hmid hcw hcb hk (lst_217 w) (by kernel_rfl) Si) ?_ (kid_vals hT hb hc hW hcw hcb hk (lst_217 w) (pc_217 w) (lg_217 w) Vi)
  obtain ⟨x, d, es, n, ep, rfl, e1, e2, _⟩ := hk
  have S : Stripped w h (30 + 1) (.ref x) (cat ts) := stripped_of hT (inst_tl e1 e2) dict_solid (ps_217 w) (lg_217 w) fun A s P hA B hk' hP =>
    fn213 (n := 18) (a := c) hk' (lst_217 w) hA B (KeepT.get hk' hT e1 (.inl fun z => by cases z)) (fun i hi v hv => ⟨"cfws", (row_before hi hv) ▸ tt_cf hT hcw, by decide⟩) row_at (tt_244 hT hi) Vi hP
  exact fun A s Q E e h1 => S A s Q E e (h1.weaken (by omega))

/-- the two kinds of attribute text -/
theorem out_attr {k : Str} (hT : Tab h) (ha : a ≤ 1) (hb : b ≤ 1) (hc : c ≤ 1) (hW : W.length ≤ 1000) (hk0 : Txt.endswith k "attrtext" = true) (hca : Cf h ca) (hcw : Cf h cw) (hcb : Cf h cb) (hi : Term h inner 415 W k) (hk : TL h kid 264 (row c b cw inner cb)) (hv : TL h value 284 (row a 0 ca kid ca)) :
    Out w h value a b c W W := by
  have Si : Shows w h 20 inner W := (shows_term415 hT hi (by rw [sizeLine_eq]; omega)).weaken (by omega)
  have Vi : Vals w h 18 inner W := (vals_term hT hi).weaken (by omega)
  refine out_value hT ha hb hc hW (by omega) hca hv (tt_264 hT hk) (by decide) (by decide +kernel) (kid_shows hT hb hc (by omega) hcw hcb hk (lst_264 w) (by kernel_rfl) Si) ?_ (kid_vals hT hb hc hW hcw hcb hk (lst_264 w) (pc_264 w) (lg_264 w) Vi)
  obtain ⟨x, d, es, n, ep, rfl, e1, e2, _⟩ := hk
  have S : Stripped w h (30 + 1) (.ref x) W := stripped_of hT (inst_tl e1 e2) dict_solid (ps_264 w) (lg_264 w) fun A s P hA B hk' hP =>
    fn260 (n := 18) (a := c) hk' (lst_264 w) hA B (KeepT.get hk' hT e1 (.inl fun z => by cases z)) (fun i hi v hv => ⟨"cfws", (row_before hi hv) ▸ tt_cf hT hcw, by decide +kernel⟩) hk0 row_at (tt_term hT hi) Vi hP
  exact fun A s Q E e h1 => S A s Q E e (h1.weaken (by omega))

/-- a value of parts -/
theorem strip_parts {y0 : Value} {t0 : Str} (hT : Tab h) (ha : a ≤ 1) (hb : b ≤ 1) (hW : (cat ts).length ≤ 1000) (hn : xs.length ≤ 1000) (hca : Cf h ca) (hcb : Cf h cb) (hx : Terms h xs ts "ptext") (hy : xs[0]? = some y0) (hy' : ts[0]? = some t0) (hv : TL h value 284 (List.replicate a ca ++ xs ++ List.replicate b cb)) :
    Stripped w h 60 value (rep a sp ++ cat ts ++ rep b sp) := by
  have hts : ∀ t ∈ ts, t.length ≤ sizeLine := fun t ht => Nat.le_trans (cat_mem_le ht) (by rw [sizeLine_eq]; omega)
  have R : Rel (Vals w h 3) (List.replicate a ca ++ xs ++ List.replicate b cb) (List.replicate a sp ++ ts ++ List.replicate b sp) := ((Rel.rep a (vals_cf hT hca)).app (hx.mono fun v t q => vals_term hT q)).app (.rep b (vals_cf hT hcb))
  have hlen : (List.replicate a ca ++ xs ++ List.replicate b cb).length ≤ 1002 := by simp; omega
  have hl2 : (rep a sp ++ cat ts ++ rep b sp).length ≤ 1002 := by
    rw [len_app, len_app, rep_len, rep_len]
    have : sp.length = 1 := rfl
    rw [this]; omega
  have ec : cat (List.replicate a sp ++ ts ++ List.replicate b sp) = rep a sp ++ cat ts ++ rep b sp := by rw [cat_app, cat_app]; rfl
  have V := vals_73 hT hv (lst_284 w) (pc_284 w) (lg_284 w) R.1 R.2 (fun t ht => by
    simp only [List.mem_append, List.mem_replicate] at ht
    rcases ht with (⟨_, rfl⟩ | ht) | ⟨_, rfl⟩
    · rw [sizeLine_eq]; decide
    · exact hts t ht
    · rw [sizeLine_eq]; decide) (by rw [ec, sizeLine_eq]; omega) (by rw [sizeLine_eq]; omega)
  rw [ec] at V
  have hyT : Term h y0 415 t0 "ptext" := hx.2 0 y0 t0 hy hy'
  obtain ⟨x, d, es, n, ep, rfl, e1, e2, _⟩ := hv
  have S : Stripped w h (28 + 1) (.ref x) (rep a sp ++ cat ts ++ rep b sp) := stripped_of (n := 28) hT (inst_tl e1 e2) dict_solid (ps_284 w) (lg_284 w) fun A s P hA B hk hP => by
    have e1' := KeepT.get hk hT e1 (.inl fun z => by cases z)
    match xs, hy, a, ha, e1', V with
    | z :: r, hy, 0, _, e1', V =>
      obtain rfl : z = y0 := Option.some.inj hy
      exact fn280 (n := 16) (y0 := z) hk (li_284 w) hA B e1' rfl (tt_term hT hyT) (.inl ⟨by decide, rfl⟩) (tt_term hT hyT) (.inr ⟨by decide +kernel, V⟩) hP
    | z :: r, hy, 1, _, e1', V =>
      obtain rfl : z = y0 := Option.some.inj hy
      exact fn280 (n := 16) (y0 := ca) hk (li_284 w) hA B e1' rfl (tt_cf hT hca) (.inr ⟨rfl, rfl⟩) (tt_term hT hyT) (.inr ⟨by decide +kernel, V⟩) hP
  exact fun A s Q E e h1 => S A s Q E e (h1.weaken (by omega))
end
end Mine

end
section
open PySem PySem.W PyProof.Rows PySem.Calls
set_option maxRecDepth 100000
namespace Mine
open PySem.Builtin.Str
theorem foldl_rep (x : Str) : ∀ (n : Nat) (acc : Array Nat), List.foldl (· ++ ·) acc (List.replicate n x.cps) = acc ++ (rep n x).cps
  | 0, acc => by simp [rep, cat_nil]
  | n + 1, acc => by
    rw [List.replicate_succ, List.foldl_cons, foldl_rep x n]
    have e : rep (n + 1) x = x ++ rep n x := by unfold rep; rw [List.replicate_succ, cat_cons]
    rw [e, str_append_cps, Array.append_assoc]
theorem rep_one (x : Str) : rep 1 x = x := by unfold rep; exact str_cat1 x
theorem rep_zero (x : Str) : rep 0 x = ⟨#[]⟩ := rfl
section
variable {w : World} {A : Around} {s : Shared} {E : Value → Shared → Prop}
theorem mul_s {x : Str} {t u : Tok} {n : Nat} {z : Int} {Q : Value → Shared → Prop} (hz : z = Int.ofNat n) (hn : n ≤ 100) (hx : x.length ≤ 1000) (hx0 : x.length ≠ 0)
    (hQ : ∀ t' tk, Q (.str (rep n x) t') { s with toks := tk }) : wpAny (MM w) A (binaryOp .Mult (.str x t) (.int z u)) Q E s := by
  have hzn : z.toNat = n := by rw [hz]; rfl
  have h0 : 0 ≤ z := by rw [hz]; exact Int.natCast_nonneg n
  have h1 : z ≤ 100 := by rw [hz]; exact Int.ofNat_le.mpr hn
  have hl : (rep n x).length ≤ 100000 := by
    rw [rep_len]
    have := Nat.mul_le_mul hn hx
    omega
  refine PySem.P.mul_str (by rw [decide_eq_false (by omega), decide_eq_false (by omega)]; rfl) (fun h2 h3 => ?_) (fun _ _ => ?_) ?_
  · have hm : (x.length : Int) * z ≤ 1000 * 100 := Int.mul_le_mul (by omega) h1 h0 (by omega)
    have : (x.length : Int) ≤ (2 ^ 63 - 1) / z := Int.le_ediv_of_mul_le (by omega) (by omega)
    omega
  · rw [hzn]
    show decide (_ > sizeLine) = false
    rw [sizeLine_eq]
    have := Nat.mul_le_mul hx hn
    exact decide_eq_false (by omega)
  · split
    · have e : n = 0 := by omega
      subst e
      exact ⟨by decide, hQ _ _⟩
    · rename_i h2
      split
      · rename_i h3
        have e : n = 1 := by
          rcases (Bool.or_eq_true _ _).mp h3 with h | h
          · have := eq_of_beq h; omega
          · exact absurd (eq_of_beq h) hx0
        subst e
        rw [rep_one] at hQ
        exact hQ t s.toks
      · have e : (⟨(List.replicate z.toNat x.cps).foldl (· ++ ·) #[]⟩ : Str) = rep n x := by
          rw [hzn, foldl_rep]
          simp
        rw [e]
        exact ⟨by rw [sizeLine_eq]; omega, hQ _ _⟩
theorem add_s {x y : Str} {t u : Tok} {Q : Value → Shared → Prop} (hx : (x ++ y).length ≤ 100000) (hQ : ∀ t' tk, Q (.str (x ++ y) t') { s with toks := tk }) : wpAny (MM w) A (binaryOp .Add (.str x t) (.str y u)) Q E s := by
  refine PySem.P.add_str ?_
  split
  · rename_i h
    have e : x.cps = #[] := Array.eq_empty_of_size_eq_zero (eq_of_beq h)
    have e2 : x ++ y = y := by
      show (⟨x.cps ++ y.cps⟩ : Str) = y
      rw [e]; simp
    rw [e2] at hQ
    exact hQ u s.toks
  · split
    · rename_i h
      have e : y.cps = #[] := Array.eq_empty_of_size_eq_zero (eq_of_beq h)
      have e2 : x ++ y = x := by
        show (⟨x.cps ++ y.cps⟩ : Str) = x
        rw [e]; simp
      rw [e2] at hQ
      exact hQ t s.toks
    · exact ⟨by rw [sizeLine_eq]; omega, hQ _ _⟩
end
end Mine

end
section
open PySem PySem.W PyProof.Rows PySem.Calls
set_option maxRecDepth 100000
namespace Mine
open PySem.Builtin.Str
/-- terminals in a row, made at or above lo -/
def TermsN (lo : Nat) (h : Heap) (xs : List Value) (ts : List Str) (k : Str) : Prop := Rel (fun v t => TermN lo h v 415 t k) xs ts
theorem TermsN.terms {lo h xs ts k} (x : TermsN lo h xs ts k) : Terms h xs ts k := x.mono fun _ _ q => q.term
theorem TermsN.keepsX {lo : Nat} {h h' : Heap} {xs ts k} {X : Addr → Prop} (x : TermsN lo h xs ts k) (T : Tab h) (q : KeepX X h h') (hX : ∀ b, X b → (b : Nat) < lo) : TermsN lo h' xs ts k := x.mono fun _ _ t => t.keepsX T q hX
theorem TermsN.weaken {lo lo' : Nat} {h xs ts k} (x : TermsN lo' h xs ts k) (hl : lo ≤ lo') : TermsN lo h xs ts k := x.mono fun _ _ t => t.weaken hl
abbrev scText : Scope := { kind := .function, names := [(".0", .local), ("text", .local), ("ValueTerminal", .globalImplicit)], isGenerator := false, isCoroutine := false }
theorem strValues_get (tl : List (Str × Tok)) (i : Nat) : (strValues tl)[i]? = (tl[i]?).map fun p => .str p.1 p.2 := by simp [strValues]
theorem strValues_len (tl : List (Str × Tok)) : (strValues tl).length = tl.length := by simp [strValues]

section
variable {w : World} {A : Around} {s : Shared} {E : Value → Shared → Prop}
/-- the source of a comprehension: a list that an expression gives -/
theorem hsrc_list {env : Env} {iter : Expr} {items : List Value} {Q' : Value → Shared → Prop} {E' : Value → Shared → Prop}
    (hiter : ∀ (Q : Value → Shared → Prop), (∀ l s₁, Grown s s₁ → Ls s₁.heap l items → Q (.ref l) s₁) → wpAny (MM w) A (eval iter env) Q E' s)
    (q : ∀ s₁ o, Grown s s₁ → ItL items s₁.heap.objs.size 0 (s₁.heap.push o) → Q' (.ref s₁.heap.objs.size) { s₁ with heap := s₁.heap.push o }) : wpAny (MM w) A (eval iter env) (fun y s₁ => wpAny (MM w) A (pyIter y) Q' E' s₁) E' s := by
  refine hiter _ fun l s₁ G hl => iter_list hl.isList (q s₁ _ G ⟨l, let ⟨_, e⟩ := hl; Heap.lt_size e, ⟨_, Heap.get?_push_size _ rfl, rfl, rfl⟩, hl.keeps push_keep⟩)

abbrev FTerm (tl : List (Str × Tok)) (lo N i : Nat) (y : Value) (h : Heap) : Prop := ∃ p, tl[i]? = some p ∧ TermN (max lo (N + 3)) h y 415 p.1 "ptext"
theorem terms_F {tl : List (Str × Tok)} {lo N i : Nat} {y : Value} {h h' : Heap} (hf : FTerm tl lo N i y h) (T : Tab h) (k : KeepX (fun b => b = N ∨ b = N + 1 ∨ b = N + 2) h h') : FTerm tl lo N i y h' := by
  obtain ⟨p, hp, t⟩ := hf
  exact ⟨p, hp, t.keepsX T k fun b hb => by
      refine Nat.lt_of_lt_of_le ?_ (Nat.le_max_right _ _)
      rcases hb with h | h | h
      · exact h ▸ Nat.lt_add_of_pos_right (by decide)
      · exact h ▸ Nat.add_lt_add_left (by decide) N
      · exact h ▸ Nat.add_lt_add_left (by decide) N⟩
theorem terms_elt {env : Env} {p1 p2 p3 p4 : Pos} {tl : List (Str × Tok)} {lo : Nat} (hA : Small A 14) (B : Bs w s.heap) (hg : env.globals = 3) (ht : ∀ p ∈ tl, p.1.length ≤ sizeLine) (hlo : ∀ s', Grown s s' → lo ≤ s'.heap.objs.size)
    (N i : Nat) (v : Value) (s' : Shared) (m : Str → Option Value) (E' : Value → Shared → Prop) (hv : (strValues tl)[i]? = some v) (G : Grown s s') (hN : N + 2 < s'.heap.objs.size) (hn : s'.heap.Ns (N + 2) m) (hm : m "text" = some v) :
    wpAny (MM w) A (eval (.Call (.Name "ValueTerminal" p1) [.Name "text" p2, .Constant (.str "ptext") 0 p3] [] p4) (compEnv scText (N + 2) env)) (fun y s'' => Grown s' s'' ∧ FTerm tl lo N i y s''.heap) E' s' := by
  rw [strValues_get] at hv
  obtain ⟨p, hp, rfl⟩ := Option.map_eq_some_iff.mp hv
  have B' := B.keepsT G.hp
  refine Call_ (name_gl B' (v := .ref 415) (by kernel_rfl) ?_ rfl rfl hg)
  refine callWith_K B'.K (by kernel_rfl) (args_cons (name_loc hn hm (args_cons (wpAny_Constant_str (args_nil ⟨B'.K, ?_⟩)))))
  exact wp_call_of (new_term (termC_415 w) (hA.weaken (by omega)) B' (ht p (List.mem_of_getElem? hp)) fun y s'' G' ty => ⟨⟨G'.hp, G'.os, G'.dr, G'.gz, G'.go, G'.gb⟩, p, hp, ty.weaken (Nat.max_le.mpr ⟨hlo s' G, hN⟩)⟩)

theorem terms_end {tl : List (Str × Tok)} {lo : Nat} {h : Heap} {ys : List Value} (hlen : ys.length = (strValues tl).length) {N : Nat} (hf : ∀ (i : Nat) y, ys[i]? = some y → FTerm tl lo N i y h) : TermsN lo h ys (tl.map (·.1)) "ptext" := by
  refine ⟨by rw [hlen, strValues_len, List.length_map], fun i y t hy ht => ?_⟩
  obtain ⟨p, hp, ty⟩ := hf i y hy
  rw [List.getElem?_map, hp] at ht
  cases ht
  exact ty.weaken (Nat.le_max_left _ _)
theorem comp_terms {env : Env} {iter : Expr} {p1 p2 p3 p4 px pos : Pos} {tl : List (Str × Tok)} {Q : Value → Shared → Prop} (hA : Small A 14) (B : Bs w s.heap) (hg : env.globals = 3)
    (hiter : ∀ (Q : Value → Shared → Prop) E', (∀ l s₁, Grown s s₁ → Ls s₁.heap l (strValues tl) → Q (.ref l) s₁) → wpAny (MM w) A (eval iter env) Q E' s) (hz : tl.length ≤ sizeLine) (ht : ∀ p ∈ tl, p.1.length ≤ sizeLine)
    {lo : Nat} (hlo : ∀ s', Grown s s' → lo ≤ s'.heap.objs.size) (hQ : ∀ (a : Addr) ys s', Grown s s' → Ls s'.heap a ys → TermsN lo s'.heap ys (tl.map (·.1)) "ptext" → Q (.ref a) s')
    (hs : ∀ x, foldedSetIterable iter env x = pure x := by intro _; rfl) :
    wpAny (MM w) A (eval (.ListComp (.Call (.Name "ValueTerminal" p1) [.Name "text" p2, .Constant (.str "ptext") 0 p3] [] p4) [⟨.Name "text" px, iter, [], 0⟩] scText pos) env) Q E s := by
  refine comp_src (n := (strValues tl).length) (val := fun i v => (strValues tl)[i]? = some v) (It := ItL (strValues tl)) (F := FTerm tl lo) B (by decide) rfl (by decide) (by decide) rfl
    (fun N => src_list hA.hd _ N) (fun Q' E' q => hsrc_list (fun Q h => hiter Q _ h) q) (by rw [strValues_len]; exact hz) (fun N i y h h' hf T k => terms_F hf T k) (fun N i v s' m E' hv hi G hN hn hm => terms_elt hA B hg ht hlo N i v s' m E' hv G hN hn hm) (fun N ys s' G ha hlen hf => ?_) hs
  exact hQ _ ys s' G ha (terms_end hlen hf)

/-- the same given to a name -/
theorem terms_assign {env : Env} {iter : Expr} {y : Str} {p1 p2 p3 p4 px pos py spos : Pos} {tl : List (Str × Tok)} {Q : Flow → Shared → Prop} {L lo : Nat} {m₀ : Str → Option Value} (hA : Small A 14) (B : Bs w s.heap) (hg : env.globals = 3)
    (hsw : swapsWith (.ListComp (.Call (.Name "ValueTerminal" p1) [.Name "text" p2, .Constant (.str "ptext") 0 p3] [] p4) [⟨.Name "text" px, iter, [], 0⟩] scText pos) (some (.Name y py)) spos.line env = pure true)
    (hiter : ∀ (Q : Value → Shared → Prop) E', (∀ l s₁, Grown s s₁ → Ls s₁.heap l (strValues tl) → Q (.ref l) s₁) → wpAny (MM w) A (eval iter env) Q E' s) (hz : tl.length ≤ sizeLine) (ht : ∀ p ∈ tl, p.1.length ≤ sizeLine) (hlo : ∀ s', Grown s s' → lo ≤ s'.heap.objs.size) (hlL : L < lo)
    (hns : s.heap.Ns L m₀) (hL : env.locals = L) (hy : env.kindOf y = some .local) (hp : (env.scope.kind == .class || (env.scope.kind == .module && env.locals != env.globals)) = false) (hLt : ∀ c P, (c, P) ∈ tabL → L ≠ c ∧ L ≠ P)
    (hQ : ∀ (a : Nat) ys s₂, (∃ s', Grown s s' ∧ KeepX (fun b => b = L) s.heap s₂.heap ∧ s₂.os = s'.os ∧ s₂.gens = s'.gens) → Ls s₂.heap a ys → TermsN lo s₂.heap ys (tl.map (·.1)) "ptext" → s₂.heap.Ns L (fun z => if z = y then some (.ref a) else m₀ z) → Q .next s₂)
    (hs : ∀ x, foldedSetIterable iter env x = pure x := by intro _; rfl) :
    wpAny (MM w) A (exec (.Assign [.Name y py] (.ListComp (.Call (.Name "ValueTerminal" p1) [.Name "text" p2, .Constant (.str "ptext") 0 p3] [] p4) [⟨.Name "text" px, iter, [], 0⟩] scText pos) spos) env) Q E s := by
  refine comp_assign (n := (strValues tl).length) (val := fun i v => (strValues tl)[i]? = some v) (It := ItL (strValues tl)) (F := FTerm tl lo) B hsw (by decide) rfl (by decide) (by decide) rfl
    (fun N => src_list hA.hd _ N) (fun Q' E' q => hsrc_list (fun Q h => hiter Q _ h) q) (by rw [strValues_len]; exact hz) (fun N i y h h' hf T k => terms_F hf T k) (fun N i v s' m E' hv hi G hN hn hm => terms_elt hA B hg ht hlo N i v s' m E' hv G hN hn hm)
    hns hL hy hp hLt (fun N i y h h' hLN hf T k => ?_) (fun a ys s₂ hx ha hlen hf hn => ?_) hs
  · obtain ⟨p, hp, t⟩ := hf
    exact ⟨p, hp, t.keepsX T k fun b hb => Nat.lt_of_lt_of_le (show (b : Nat) < lo from hb ▸ hlL) (Nat.le_max_left _ _)⟩
  · obtain ⟨N, _, hf⟩ := hf
    exact hQ a ys s₂ hx ha (terms_end hlen hf) hn

/-- the six texts -/
def six : List Str := ["a", "b c", "\"", "\\", "%41", ""]
def pick (n : Int) : Str := six.getD (n.fmod 6).toNat ""
theorem pick_len (n : Int) : (pick n).length ≤ 3 := by
  unfold pick
  generalize (n.fmod 6).toNat = k
  match k with
  | 0 => decide
  | 1 => decide
  | 2 => decide
  | 3 => decide
  | 4 => decide
  | 5 => decide
  | k + 6 => exact Nat.zero_le _
abbrev scN : Scope := { kind := .function, names := [(".0", .local), ("n", .local)], isGenerator := false, isCoroutine := false }
abbrev scSign : Scope := { kind := .function, names := [(".0", .local), ("sign", .local)], isGenerator := false, isCoroutine := false }
theorem ints_get {vs : List Value} {ns : List Int} (h : IntsAre vs ns) : ∀ (i : Nat) v, vs[i]? = some v → ∃ n u, ns[i]? = some n ∧ v = .int n u := by
  induction h with
  | nil => intro i v e; cases e
  | cons n t _ ih =>
    intro i v e
    match i with
    | 0 => cases e; exact ⟨n, t, rfl, rfl⟩
    | i + 1 => exact ih i v e

theorem strs_of : ∀ (ys : List Value) (ts : List Str), ys.length = ts.length → (∀ (i : Nat) y, ys[i]? = some y → ∃ t u, ts[i]? = some t ∧ y = .str t u) → ∃ tl, ys = strValues tl ∧ tl.map (·.1) = ts
  | [], [], _, _ => ⟨[], rfl, rfl⟩
  | [], _ :: _, h, _ => by cases h
  | _ :: _, [], h, _ => by cases h
  | y :: ys, t :: ts, h, f => by
    obtain ⟨tl, rfl, rfl⟩ := strs_of ys ts (Nat.succ.inj h) fun i z hz => f (i + 1) z hz
    obtain ⟨t', u, e, rfl⟩ := f 0 y rfl
    cases e
    exact ⟨(t, u) :: tl, rfl, rfl⟩

abbrev FText (ns : List Int) (i : Nat) (y : Value) : Prop := ∃ n u, ns[i]? = some n ∧ y = .str (pick n) u
theorem texts_elt {env : Env} {q1 q2 q3 q4 q5 q6 q7 p1 p2 p3 p4 : Pos} {vs : List Value} {ns : List Int} (hv : IntsAre vs ns) (N i : Nat) (v : Value) (s' : Shared) (m : Str → Option Value) (E' : Value → Shared → Prop) (hv' : vs[i]? = some v) (hn : s'.heap.Ns (N + 2) m) (hm : m "n" = some v) :
    wpAny (MM w) A (eval (.Subscript (.List [.Constant (.str "a") 0 q1, .Constant (.str "b c") 0 q2, .Constant (.str "\"") 0 q3, .Constant (.str "\\") 0 q4, .Constant (.str "%41") 0 q5, .Constant (.str "") 0 q6] q7) (.BinOp (.Name "n" p1) .Mod (.Constant (.int 6) 0 p2) p3) p4) (compEnv scN (N + 2) env)) (fun y s'' => Grown s' s'' ∧ FText ns i y) E' s' := by
  obtain ⟨n, u, hn', rfl⟩ := ints_get hv i v hv'
  refine Subscript_ (List_ (args_cons (wpAny_Constant_str (args_cons (wpAny_Constant_str (args_cons (wpAny_Constant_str (args_cons (wpAny_Constant_str (args_cons (wpAny_Constant_str (args_cons (wpAny_Constant_str (args_nil ?_))))))))))))))
  refine wpAny_newObj_type ?_ (by size_fits)
  refine wpAny_BinOp (name_loc (hn.keeps push_keep) hm (wpAny_Constant_int (mod_int (by decide) ?_)))
  have h6 : 0 ≤ n.fmod 6 := Int.fmod_nonneg_of_pos n (by decide)
  have h7 : n.fmod 6 < 6 := Int.fmod_lt_of_pos n (by decide)
  have key : ∀ t0 t1 t2 t3 t4 t5 : Tok, ∃ u', ([.str "a" t0, .str "b c" t1, .str "\"" t2, .str "\\" t3, .str "%41" t4, .str "" t5] : List Value)[(n.fmod 6).toNat]? = some (.str (pick n) u') := by
    intro t0 t1 t2 t3 t4 t5
    unfold pick
    have hk : (n.fmod 6).toNat < 6 := by omega
    generalize (n.fmod 6).toNat = k at hk
    match k, hk with
    | 0, _ => exact ⟨_, rfl⟩
    | 1, _ => exact ⟨_, rfl⟩
    | 2, _ => exact ⟨_, rfl⟩
    | 3, _ => exact ⟨_, rfl⟩
    | 4, _ => exact ⟨_, rfl⟩
    | 5, _ => exact ⟨_, rfl⟩
  obtain ⟨u', hu'⟩ := key s'.toks (s'.toks + 1) (s'.toks + 1 + 1) (s'.toks + 1 + 1 + 1) (s'.toks + 1 + 1 + 1 + 1) (s'.toks + 1 + 1 + 1 + 1 + 1)
  have hI : ∀ tk, (({ s' with heap := s'.heap.push (lsObj ([.str "a" s'.toks, .str "b c" (s'.toks + 1), .str "\"" (s'.toks + 1 + 1), .str "\\" (s'.toks + 1 + 1 + 1), .str "%41" (s'.toks + 1 + 1 + 1 + 1), .str "" (s'.toks + 1 + 1 + 1 + 1 + 1)] : List Value).toArray 0), toks := tk } : Shared)).heap.IsList s'.heap.objs.size ([.str "a" s'.toks, .str "b c" (s'.toks + 1), .str "\"" (s'.toks + 1 + 1), .str "\\" (s'.toks + 1 + 1 + 1), .str "%41" (s'.toks + 1 + 1 + 1 + 1), .str "" (s'.toks + 1 + 1 + 1 + 1 + 1)] : List Value).toArray := fun tk => ⟨_, Heap.get?_push_size _ rfl, rfl, 0, rfl⟩
  refine tail_any (ops := [_, _]) (hI _).typeIs slot_list_getitem.lookup (wpAny_getItem_list (hI _) h6 (by omega) (by simpa using hu') ⟨?_, n, u', hn', rfl⟩) rfl
  exact Grown.of_heapT (KeepT.of_keep push_keep)

theorem texts_assign {env : Env} {iter : Expr} {y : Str} {q1 q2 q3 q4 q5 q6 q7 p1 p2 p3 p4 px pos py spos : Pos} {vs : List Value} {ns : List Int} {Q : Flow → Shared → Prop} {L : Nat} {m₀ : Str → Option Value} (hA : Small A 4) (B : Bs w s.heap) (hv : IntsAre vs ns)
    (hsw : swapsWith (.ListComp (.Subscript (.List [.Constant (.str "a") 0 q1, .Constant (.str "b c") 0 q2, .Constant (.str "\"") 0 q3, .Constant (.str "\\") 0 q4, .Constant (.str "%41") 0 q5, .Constant (.str "") 0 q6] q7) (.BinOp (.Name "n" p1) .Mod (.Constant (.int 6) 0 p2) p3) p4) [⟨.Name "n" px, iter, [], 0⟩] scN pos) (some (.Name y py)) spos.line env = pure true)
    (hiter : ∀ (Q : Value → Shared → Prop) E', (∀ l s₁, Grown s s₁ → Ls s₁.heap l vs → Q (.ref l) s₁) → wpAny (MM w) A (eval iter env) Q E' s) (hz : vs.length ≤ sizeLine)
    (hns : s.heap.Ns L m₀) (hL : env.locals = L) (hy : env.kindOf y = some .local) (hp : (env.scope.kind == .class || (env.scope.kind == .module && env.locals != env.globals)) = false) (hLt : ∀ c P, (c, P) ∈ tabL → L ≠ c ∧ L ≠ P)
    (hQ : ∀ (a : Nat) tl s₂, (∃ s', Grown s s' ∧ KeepX (fun b => b = L) s.heap s₂.heap ∧ s₂.os = s'.os ∧ s₂.gens = s'.gens) → Ls s₂.heap a (strValues tl) → tl.map (·.1) = ns.map pick → s₂.heap.Ns L (fun z => if z = y then some (.ref a) else m₀ z) → Q .next s₂)
    (hs : ∀ x, foldedSetIterable iter env x = pure x := by intro _; rfl) :
    wpAny (MM w) A (exec (.Assign [.Name y py] (.ListComp (.Subscript (.List [.Constant (.str "a") 0 q1, .Constant (.str "b c") 0 q2, .Constant (.str "\"") 0 q3, .Constant (.str "\\") 0 q4, .Constant (.str "%41") 0 q5, .Constant (.str "") 0 q6] q7) (.BinOp (.Name "n" p1) .Mod (.Constant (.int 6) 0 p2) p3) p4) [⟨.Name "n" px, iter, [], 0⟩] scN pos) spos) env) Q E s := by
  refine comp_assign (n := vs.length) (val := fun i v => vs[i]? = some v) (It := ItL vs) (F := fun N i y h => FText ns i y) B hsw (by decide) rfl (by decide) (by decide) rfl
    (fun N => src_list hA.hd _ N) (fun Q' E' q => hsrc_list (fun Q h => hiter Q _ h) q) hz (fun N i y h h' hf T k => hf) (fun N i v s' m E' hv' hi G hN hn hm => texts_elt hv N i v s' m E' hv' hn hm)
    hns hL hy hp hLt (fun N i y h h' hLN hf T k => hf) (fun a ys s₂ hx ha hlen hf hn => ?_) hs
  obtain ⟨N, _, hf⟩ := hf
  obtain ⟨tl, rfl, e⟩ := strs_of ys (ns.map pick) (by rw [hlen, List.length_map, hv.length]) fun i y hy => by
    obtain ⟨n, u, hn, e⟩ := hf i y hy
    exact ⟨pick n, u, by rw [List.getElem?_map, hn]; rfl, e⟩
  exact hQ a tl s₂ hx ha e hn

/-- the signs as the law spells them -/
theorem comp_signs {env : Env} {iter : Expr} {p1 p2 p3 p4 p5 p6 p7 p8 px pos : Pos} {x : Str} {xt : Tok} {Q : Value → Shared → Prop} (hA : Small A 4) (B : Bs w s.heap)
    (hiter : ∀ (Q : Value → Shared → Prop) E', Q (.str x xt) s → wpAny (MM w) A (eval iter env) Q E' s) (hz : x.length ≤ sizeLine)
    (hQ : ∀ (a : Addr) tl s', Grown s s' → Ls s'.heap a (strValues tl) → tl.map (·.1) = x.cps.toList.map (fun c => ⟨(esc c).toArray⟩) → Q (.ref a) s')
    (hs : ∀ x, foldedSetIterable iter env x = pure x := by intro _; rfl) :
    wpAny (MM w) A (eval (.ListComp (.IfExp (.Compare (.Name "sign" p1) [.In] [.Constant (.str "\"\\") 0 p2] p3) (.BinOp (.Constant (.str "\\") 0 p4) .Add (.Name "sign" p5) p6) (.Name "sign" p7) p8) [⟨.Name "sign" px, iter, [], 0⟩] scSign pos) env) Q E s := by
  refine comp_src (n := x.cps.size) (val := SignAt x) (It := ItS w x) (F := fun N i y h => ∃ c u, x.cps[i]? = some c ∧ y = .str ⟨(esc c).toArray⟩ u) B (by decide) rfl (by decide) (by decide) rfl
    (fun N => src_str hA.hd x N) (fun Q' E' q => hiter _ _ ?_) hz (fun N i y h h' hf T k => hf) (fun N i v s' m E' hv' hi G hN hn hm => ?_) (fun N ys s' G ha hlen hf => ?_) hs
  · exact wpAny_pyIter_str fun o St W st => q s o (Grown.refl _) ⟨St, W, st⟩
  · obtain ⟨c, u, hc, rfl⟩ := hv'
    have hin : (!(occurrences (Str.ofString "\"\\") ⟨#[c]⟩ 0 (Str.ofString "\"\\").length 1).isEmpty) = decide (c = 34 ∨ c = 92) := by
      rw [StrLaws.found_one]
      have : (Str.ofString "\"\\").cps.toList = [34, 92] := by decide
      rw [this]
      simp
    refine wpAny_IfExp (wpAny_isTrue_Compare1 (name_loc hn hm (wpAny_Constant_str (PySem.P.in_str (wpAny_truthy_bool ?_)))))
    rw [hin]
    by_cases h : c = 34 ∨ c = 92
    · rw [decide_eq_true h, if_pos rfl]
      refine wpAny_BinOp (wpAny_Constant_str (name_loc hn hm (add_s (by rw [len_app]; exact Nat.le_of_ble_eq_true rfl) fun t' tk => ⟨Grown.of_heapT (KeepX.refl _ _), c, t', hc, ?_⟩)))
      unfold esc
      rw [if_pos h]
      rfl
    · rw [decide_eq_false h, if_neg Bool.false_ne_true]
      refine name_loc hn hm ⟨Grown.of_heapT (KeepX.refl _ _), c, u, hc, ?_⟩
      unfold esc
      rw [if_neg h]
  · obtain ⟨tl, rfl, e⟩ := strs_of ys (x.cps.toList.map fun c => ⟨(esc c).toArray⟩) (by rw [hlen, List.length_map, Array.length_toList]) fun i y hy => by
      obtain ⟨c, u, hc, e⟩ := hf i y hy
      exact ⟨_, u, by rw [List.getElem?_map, Array.getElem?_toList, hc]; rfl, e⟩
    exact hQ _ tl s' G ha e
theorem cat_esc (x : Str) : cat (x.cps.toList.map fun c => ⟨(esc c).toArray⟩) = mq x := by
  unfold cat mq
  rw [List.flatMap_map]
end
end Mine

end
section
open PySem PySem.W PyProof.Rows PySem.Calls
set_option maxRecDepth 100000
namespace Mine
noncomputable def lawFd : {fd : FuncData // ∀ w : World, ∃ oc od sl, (KK w).lookup 429 = some ⟨oc, od, .func fd, sl⟩} := ⟨_, fun w => ⟨_, _, _, rfl⟩⟩
noncomputable abbrev lawBody : List Stmt := match lawFd.1.body with
  | .stmts b => b
  | _ => []
noncomputable abbrev lawScope : Scope := lawFd.1.scope
def bodyOf : Stmt → List Stmt
  | .For _ _ b _ _ => b
  | _ => []
def firstOf : List Stmt → List Stmt
  | s :: _ => bodyOf s
  | _ => []
noncomputable def body1 : List Stmt := firstOf (lawBody.drop 4)
noncomputable def body2 : List Stmt := firstOf body1
noncomputable def body3 : List Stmt := firstOf body2
noncomputable def body4 : List Stmt := firstOf body3
noncomputable abbrev lawEnv (L fa : Addr) (cd : Value) : Env := envX "law" lawScope L fa cd []
end Mine

end
section
open PySem PySem.W PyProof.Rows PySem.Calls
set_option maxRecDepth 100000
namespace Mine
/-- L is the place of the law's own names: no written object, no table -/
structure LN (w : World) (L : Nat) : Prop where
  nk : ∀ a o, (KK w).lookup a = some o → a ≠ L
  ns : cStatics ≠ L
  nb : builtinsNs ≠ L
  nt : ∀ c P, (c, P) ∈ tabL → L ≠ c ∧ L ≠ P
abbrev KL (L : Nat) (h h' : Heap) : Prop := KeepX (fun b => b = L) h h'
theorem LN.bs {w L h h'} (x : LN w L) (B : Bs w h) (k : KL L h h') : Bs w h' := B.keepsX k x.nk x.ns x.nb
theorem KL.of {w : World} {L : Nat} {s s' : Shared} {h : Heap} (x : LN w L) (G : Grown s s') (e : Heap.SameBut L s'.heap h) : KL L s.heap h := (KeepT.to G.hp).trans (KeepX.ext e.extBut rfl x.nt)
theorem KL.same {w : World} {L : Nat} {h h' : Heap} (x : LN w L) (e : Heap.SameBut L h h') : KL L h h' := KeepX.ext e.extBut rfl x.nt
/-- what turns in the law: its names, and what is made -/
structure LG (L : Nat) (s s' : Shared) : Prop where
  hp : KL L s.heap s'.heap
  os : s'.os = s.os
  gz : s.gens.size ≤ s'.gens.size
  go : ∀ k, k < s.gens.size → s'.gens[k]? = s.gens[k]?
  gb : ∀ k, s.gens.size ≤ k → ∀ x, s'.gens[k]? = some x → x.bare = true
theorem LG.of {w : World} {L : Nat} {s s' : Shared} {h : Heap} {tk : Nat} (x : LN w L) (G : Grown s s') (e : Heap.SameBut L s'.heap h) : LG L s { s' with heap := h, toks := tk } := ⟨KL.of x G e, G.os, G.gz, G.go, G.gb⟩
theorem LG.grown {L : Nat} {s s' : Shared} (G : Grown s s') : LG L s s' := ⟨KeepT.to G.hp, G.os, G.gz, G.go, G.gb⟩
theorem LG.refl (L : Nat) (s : Shared) : LG L s s := .grown (Grown.refl s)
theorem LG.trans {L : Nat} {a b c : Shared} (x : LG L a b) (y : LG L b c) : LG L a c where
  hp := x.hp.trans y.hp
  os := y.os.trans x.os
  gz := Nat.le_trans x.gz y.gz
  go := fun k hk => (y.go k (Nat.lt_of_lt_of_le hk x.gz)).trans (x.go k hk)
  gb := fun k hk v hv => by
    rcases Nat.lt_or_ge k b.gens.size with h | h
    · rw [y.go k h] at hv; exact x.gb k hk v hv
    · exact y.gb k h v hv
theorem Ls.keepsL {h h' : Heap} {l : Addr} {xs} {L : Nat} {m} (x : Ls h l xs) (T : Tab h) (n : h.Ns L m) (k : KL L h h') : Ls h' l xs := by
  obtain ⟨c, e⟩ := x
  refine ⟨c, k.get T e (.inl fun z => by cases z) fun q => ?_⟩
  obtain ⟨o, es, ep, e', hd, _⟩ := n
  rw [← q, e] at e'
  cases e'
  cases hd
theorem ltL {L : Nat} : ∀ b : Addr, b = L → (b : Nat) < L + 1 := fun b h => h ▸ Nat.lt_succ_self L

section
variable {w : World} {A : Around} {s : Shared} {E : Value → Shared → Prop} {L fa : Addr} {cd : Value} {m : Str → Option Value}
theorem grown_lt {s s' : Shared} (B : Bs w s.heap) (n : s.heap.Ns L m) (G : Grown s s') : L < s'.heap.objs.size := (Ns.keepsT n B.tab G.hp fun q => q).lt

/-- a name the law reads -/
theorem white {x : Str} {p1 p2 p3 : Pos} {k : Nat} {z : Int} {u : Tok} {Q : Value → Shared → Prop} (hA : Small A 20) (B : Bs w s.heap) (n : s.heap.Ns L m) (hx : m x = some (.int z u)) (hz : z = Int.ofNat k) (hk : k ≤ 1000) (hl : (lawEnv L fa cd).kindOf x = some .local) (hd : (x == ("__debug__" : Str)) = false)
    (hQ : ∀ l c s', Grown s s' → CfN (L + 1) s'.heap c → Ls s'.heap l (List.replicate k c) → Q (.ref l) s') : wpAny (MM w) A (eval (.Call (.Name "_law_white" p1) [.Name x p2] [] p3) (lawEnv L fa cd)) Q E s := by
  refine Call_ (name_gl B (v := .ref 424) (by kernel_rfl) (callWith_K B.K (by kernel_rfl) (args_cons (name_loc n hx (args_nil ⟨B.K, ?_⟩) rfl hl hd))))
  exact wp_call_of (fn424 hz hk hA B fun l c s' G hc hl => hQ l c s' G (hc.weaken n.lt) hl)

/-- Class(_law_white(x) + [y] + _law_white(z)) -/
theorem eval_row {nC xc xy xb : Str} {C : Addr} {p1 p2 p3 p4 p5 p6 p7 p8 p9 p10 p11 p12 : Pos} {c b : Nat} {zc zb : Int} {uc ub : Tok} {y : Value} {Q : Value → Shared → Prop} (TC : TLC w C) (hC : nsIn (KK w) 3 nC = some (some (.ref C))) (hkC : keepIn (KK w) (.ref C) = true) (hnC : (lawEnv L fa cd).kindOf nC = some .globalImplicit) (hdC : (nC == ("__debug__" : Str)) = false)
    (hA : Small A 20) (B : Bs w s.heap) (n : s.heap.Ns L m) (hc : m xc = some (.int zc uc)) (hy : m xy = some y) (hb : m xb = some (.int zb ub)) (ec : zc = Int.ofNat c) (eb : zb = Int.ofNat b) (lc : c ≤ 1) (lb : b ≤ 1)
    (kc : (lawEnv L fa cd).kindOf xc = some .local) (ky : (lawEnv L fa cd).kindOf xy = some .local) (kb : (lawEnv L fa cd).kindOf xb = some .local) (dc : (xc == ("__debug__" : Str)) = false) (dy : (xy == ("__debug__" : Str)) = false) (db : (xb == ("__debug__" : Str)) = false)
    (hQ : ∀ v cw cb s', Grown s s' → CfN (L + 1) s'.heap cw → CfN (L + 1) s'.heap cb → TLN (L + 1) s'.heap v C (row c b cw y cb) → Q v s') :
    wpAny (MM w) A (eval (.Call (.Name nC p1) [.BinOp (.BinOp (.Call (.Name "_law_white" p2) [.Name xc p3] [] p4) .Add (.List [.Name xy p5] p6) p7) .Add (.Call (.Name "_law_white" p8) [.Name xb p9] [] p10) p11] [] p12) (lawEnv L fa cd)) Q E s := by
  refine Call_ (name_gl B (v := .ref C) hC (callWith_K B.K hkC (args_cons ?_)) rfl hnC rfl hdC)
  refine wpAny_BinOp (wpAny_BinOp (white hA B n hc ec (by omega) kc dc fun l₁ cw s₁ G₁ hcw hl₁ => ?_))
  have B₁ := B.keepsT G₁.hp
  have n₁ := Ns.keepsT n B.tab G₁.hp fun q => q
  refine List_ (args_cons (name_loc n₁ hy (args_nil ?_) rfl ky dy))
  refine wpAny_newObj_type ?_ (by size_fits)
  have B₂ := B₁.keeps (push_keep (o := lsObj [y].toArray 0))
  have n₂ := n₁.keeps (push_keep (o := lsObj [y].toArray 0))
  refine add_ll (hl₁.keeps push_keep) (Ls.new (xs := [y])) (by simp; rw [sizeLine_eq]; omega) fun h₃ k₃ hl₃ => ?_
  have B₃ := B₂.keeps k₃
  have n₃ := n₂.keeps k₃
  have hcw₃ : CfN (L + 1) h₃ cw := (hcw.keepsX (X := fun _ => False) B₁.tab (KeepT.of_keep push_keep) (fun _ h => h.elim)).keepsX (X := fun _ => False) B₂.tab (KeepT.of_keep k₃) (fun _ h => h.elim)
  refine white hA B₃ n₃ hb eb (by omega) kb db fun l₄ cb s₄ G₄ hcb hl₄ => ?_
  have B₄ := B₃.keepsT G₄.hp
  refine add_ll (hl₃.keepsT B₃.tab G₄.hp) hl₄ (by simp; rw [sizeLine_eq]; omega) fun h₅ k₅ hl₅ => ?_
  have B₅ := B₄.keeps k₅
  refine args_nil ⟨B₅.K, ?_⟩
  have G₅ : Grown s { s₄ with heap := h₅ } := G₁.trans ((Grown.of_heapT (KeepT.of_keep fun b o e => k₃ _ _ (push_keep _ _ e))).trans (G₄.trans (Grown.of_heapT (KeepT.of_keep k₅))))
  refine wp_call_of (new_tl (items := row c b cw y cb) TC (hA.weaken (by omega)) B₅ hl₅.isList (by rw [row_len, sizeLine_eq]; omega) fun v s₆ G₆ hv => ?_)
  have t : ∀ {c'}, CfN (L + 1) h₃ c' → CfN (L + 1) s₄.heap c' := fun x => x.keepsX (X := fun _ => False) B₃.tab G₄.hp fun _ h => h.elim
  have t' : ∀ {c'}, CfN (L + 1) s₄.heap c' → CfN (L + 1) s₆.heap c' := fun x => (x.keepsX (X := fun _ => False) B₄.tab (KeepT.of_keep k₅) fun _ h => h.elim).keepsX (X := fun _ => False) B₅.tab G₆.hp fun _ h => h.elim
  exact hQ v cw cb s₆ (G₅.trans G₆) (t' (t hcw₃)) (t' hcb) (hv.weaken (grown_lt B n G₅))
end
end Mine

end
section
open PySem PySem.W PyProof.Rows PySem.Calls
set_option maxRecDepth 100000
namespace Mine
/-- the kid of one turn -/
def KidOk (lo : Nat) (h : Heap) (kid : Value) (b c : Nat) (ts : List Str) (k : Str) : Prop :=
  (k = "bare" ∧ ∃ inner xs cw cb, TermsN lo h xs ts "ptext" ∧ TLN lo h inner 244 xs ∧ CfN lo h cw ∧ CfN lo h cb ∧ TLN lo h kid 217 (row c b cw inner cb)) ∨
  (k ≠ "bare" ∧ Txt.endswith k "attrtext" = true ∧ ∃ inner cw cb, TermN lo h inner 415 (cat ts) k ∧ CfN lo h cw ∧ CfN lo h cb ∧ TLN lo h kid 264 (row c b cw inner cb))
theorem KidOk.keepsX {lo : Nat} {h h' : Heap} {kid : Value} {b c : Nat} {ts : List Str} {k : Str} {X : Addr → Prop} (x : KidOk lo h kid b c ts k) (T : Tab h) (q : KeepX X h h') (hX : ∀ b, X b → (b : Nat) < lo) : KidOk lo h' kid b c ts k := by
  rcases x with ⟨e, inner, xs, cw, cb, a1, a2, a3, a4, a5⟩ | ⟨e, e', inner, cw, cb, a1, a2, a3, a4⟩
  · exact .inl ⟨e, inner, xs, cw, cb, a1.keepsX T q hX, a2.keepsX T q hX, a3.keepsX T q hX, a4.keepsX T q hX, a5.keepsX T q hX⟩
  · exact .inr ⟨e, e', inner, cw, cb, a1.keepsX T q hX, a2.keepsX T q hX, a3.keepsX T q hX, a4.keepsX T q hX⟩
def midOf (k : Str) (W : Str) : Str := if k = "bare" then ⟨#[34]⟩ ++ mq W ++ ⟨#[34]⟩ else W
theorem KidOk.out {w : World} {lo : Nat} {h : Heap} {kid value ca : Value} {a b c : Nat} {ts : List Str} {k : Str} (x : KidOk lo h kid b c ts k) (hT : Tab h) (ha : a ≤ 1) (hb : b ≤ 1) (hc : c ≤ 1) (hW : (cat ts).length ≤ 1000) (hn : ts.length ≤ 1000) (hca : CfN lo h ca) (hv : TLN lo h value 284 (row a 0 ca kid ca)) :
    Out w h value a b c (midOf k (cat ts)) (cat ts) := by
  rcases x with ⟨e, inner, xs, cw, cb, a1, a2, a3, a4, a5⟩ | ⟨e, e', inner, cw, cb, a1, a2, a3, a4⟩
  · rw [midOf, if_pos e]
    exact out_bare hT ha hb hc hW (by rw [a1.1]; exact hn) hca.cf a3.cf a4.cf a1.terms a2.tl a5.tl hv.tl
  · rw [midOf, if_neg e]
    exact out_attr hT ha hb hc hW e' hca.cf a2.cf a3.cf a1.term a4.tl hv.tl

section
variable {w : World} {A : Around} {s : Shared} {E : Value → Shared → Prop} {L fa : Addr} {cd : Value} {m : Str → Option Value}
/-- Value(_law_white(ahead) + [kid]) -/
theorem eval_val {p1 p2 p3 p4 p5 p6 p7 p8 : Pos} {a : Nat} {za : Int} {ua : Tok} {y : Value} {Q : Value → Shared → Prop}
    (hA : Small A 20) (B : Bs w s.heap) (n : s.heap.Ns L m) (ha : m "ahead" = some (.int za ua)) (hy : m "kid" = some y) (ea : za = Int.ofNat a) (la : a ≤ 1)
    (hQ : ∀ v ca s', Grown s s' → CfN (L + 1) s'.heap ca → TLN (L + 1) s'.heap v 284 (row a 0 ca y ca) → Q v s') :
    wpAny (MM w) A (eval (.Call (.Name "Value" p1) [.BinOp (.Call (.Name "_law_white" p2) [.Name "ahead" p3] [] p4) .Add (.List [.Name "kid" p5] p6) p7] [] p8) (lawEnv L fa cd)) Q E s := by
  refine Call_ (name_gl B (v := .ref 284) (by kernel_rfl) (callWith_K B.K (by kernel_rfl) (args_cons ?_)))
  refine wpAny_BinOp (white hA B n ha ea (by omega) rfl (by decide) fun l₁ ca s₁ G₁ hca hl₁ => ?_)
  have B₁ := B.keepsT G₁.hp
  have n₁ := Ns.keepsT n B.tab G₁.hp fun q => q
  refine List_ (args_cons (name_loc n₁ hy (args_nil ?_)))
  refine wpAny_newObj_type ?_ (by size_fits)
  have B₂ := B₁.keeps (push_keep (o := lsObj [y].toArray 0))
  refine add_ll (hl₁.keeps push_keep) (Ls.new (xs := [y])) (by simp; rw [sizeLine_eq]; omega) fun h₃ k₃ hl₃ => ?_
  have B₃ := B₂.keeps k₃
  refine args_nil ⟨B₃.K, ?_⟩
  have e : List.replicate a ca ++ [y] = row a 0 ca y ca := by simp [row]
  rw [e] at hl₃
  have G₃ : Grown s { s₁ with heap := h₃ } := G₁.trans (Grown.of_heapT (KeepT.of_keep fun b o e => k₃ _ _ (push_keep _ _ e)))
  refine wp_call_of (new_tl (items := row a 0 ca y ca) (tlC_284 w) (hA.weaken (by omega)) B₃ hl₃.isList (by rw [row_len, sizeLine_eq]; omega) fun v s₆ G₆ hv => ?_)
  have hca₃ : CfN (L + 1) h₃ ca := (hca.keepsX (X := fun _ => False) B₁.tab (KeepT.of_keep push_keep) (fun _ h => h.elim)).keepsX (X := fun _ => False) B₂.tab (KeepT.of_keep k₃) (fun _ h => h.elim)
  exact hQ v ca s₆ (G₃.trans G₆) (hca₃.keepsX (X := fun _ => False) B₃.tab G₆.hp fun _ h => h.elim) (hv.weaken (grown_lt B n G₃))
/-- x * (ahead + within) etc: a text times a sum of two names -/
theorem eval_mul2 {xa xc x : Str} {p1 p2 p3 p4 p5 : Pos} {a c : Nat} {za zc : Int} {ua uc : Tok} {Q : Value → Shared → Prop} (n : s.heap.Ns L m) (ha : m xa = some (.int za ua)) (hc : m xc = some (.int zc uc)) (ea : za = Int.ofNat a) (ec : zc = Int.ofNat c) (la : a ≤ 1) (lc : c ≤ 1)
    (ka : (lawEnv L fa cd).kindOf xa = some .local) (kc : (lawEnv L fa cd).kindOf xc = some .local) (da : (xa == ("__debug__" : Str)) = false) (dc : (xc == ("__debug__" : Str)) = false) (hx : x.length ≤ 1000) (hx0 : x.length ≠ 0)
    (hQ : ∀ t' tk, Q (.str (rep (a + c) x) t') { s with toks := tk }) :
    wpAny (MM w) A (eval (.BinOp (.Constant (.str x) 0 p1) .Mult (.BinOp (.Name xa p2) .Add (.Name xc p3) p4) p5) (lawEnv L fa cd)) Q E s :=
  wpAny_BinOp (wpAny_Constant_str (wpAny_BinOp (name_loc n ha (name_loc n hc (PySem.P.add_int (mul_s (n := a + c) (by rw [ea, ec]; rfl) (by omega) hx hx0 fun t' tk => hQ t' tk)) rfl kc dc) rfl ka da)))
theorem eval_mul1 {xa x : Str} {p1 p2 p5 : Pos} {a : Nat} {za : Int} {ua : Tok} {Q : Value → Shared → Prop} (n : s.heap.Ns L m) (ha : m xa = some (.int za ua)) (ea : za = Int.ofNat a) (la : a ≤ 1)
    (ka : (lawEnv L fa cd).kindOf xa = some .local) (da : (xa == ("__debug__" : Str)) = false) (hx : x.length ≤ 1000) (hx0 : x.length ≠ 0)
    (hQ : ∀ t' tk, Q (.str (rep a x) t') { s with toks := tk }) :
    wpAny (MM w) A (eval (.BinOp (.Constant (.str x) 0 p1) .Mult (.Name xa p2) p5) (lawEnv L fa cd)) Q E s :=
  wpAny_BinOp (wpAny_Constant_str (name_loc n ha (mul_s (n := a) ea (by omega) hx hx0 fun t' tk => hQ t' tk) rfl ka da))
end
end Mine

end
section
open PySem PySem.W PyProof.Rows PySem.Calls
set_option maxRecDepth 100000
namespace Mine
/-- what the names hold at the first three, and the three numbers -/
structure N0 (m : Str → Option Value) (lt : Addr) (W S : Str) (uw us : Tok) : Prop where
  texts : m "texts" = some (.ref lt)
  whole : m "whole" = some (.str W uw)
  spelled : m "spelled" = some (.str S us)
def keys0 : List Str := ["texts", "whole", "spelled"]
def keys : List Str := ["texts", "whole", "spelled", "ahead", "behind", "within"]
theorem set_ne {m : Str → Option Value} {x y : Str} {v : Option Value} (h : y ≠ x) : (fun z => if z = x then v else m z) y = m y := if_neg h
/-- names that stay -/
def Same (ks : List Str) (m m' : Str → Option Value) : Prop := ∀ x ∈ ks, m' x = m x
theorem Same.refl (ks : List Str) (m : Str → Option Value) : Same ks m m := fun _ _ => rfl
theorem Same.trans {ks : List Str} {a b c : Str → Option Value} (x : Same ks a b) (y : Same ks b c) : Same ks a c := fun z h => (y z h).trans (x z h)
theorem Same.set {ks : List Str} {m m' : Str → Option Value} {x : Str} {v : Option Value} (h : Same ks m m') (hx : x ∉ ks) : Same ks m (fun z => if z = x then v else m' z) := fun z hz => (set_ne (fun (e : z = x) => hx (e ▸ hz))).trans (h z hz)
theorem Same.sub {ks ks' : List Str} {m m' : Str → Option Value} (h : Same ks m m') (k : ∀ x ∈ ks', x ∈ ks) : Same ks' m m' := fun z hz => h z (k z hz)

section
variable {w : World} {A : Around} {s : Shared} {E : Value → Shared → Prop} {L fa : Addr} {cd : Value} {m : Str → Option Value}
set_option maxHeartbeats 2000000 in
/-- the first statement of a turn: the kid -/
theorem turn_kid {lt : Addr} {W S k : Str} {uw us uk : Tok} {b c : Nat} {zb zc : Int} {ub uc : Tok} {tl : List (Str × Tok)} {ts : List Str} (hN : LN w L) (hA : Small A 30) (B : Bs w s.heap) (n : s.heap.Ns L m) (h0 : N0 m lt W S uw us) (hb : m "behind" = some (.int zb ub)) (hc : m "within" = some (.int zc uc)) (hk : m "kind" = some (.str k uk))
    (eb : zb = Int.ofNat b) (ec : zc = Int.ofNat c) (lb : b ≤ 1) (lc : c ≤ 1) (hlt : Ls s.heap lt (strValues tl)) (htl : tl.map (·.1) = ts) (hW : W = cat ts) (hWl : W.length ≤ 1000) (hn : ts.length ≤ 1000) (hk' : k = "bare" ∨ (k ≠ "bare" ∧ Txt.endswith k "attrtext" = true)) {st : Stmt} {rest : List Stmt} (hst : body4 = st :: rest) :
    wpAny (MM w) A (exec st (lawEnv L fa cd)) (fun f s' => f = .next ∧ LG L s s' ∧ ∃ m', s'.heap.Ns L m' ∧ Same ("kind" :: keys) m m' ∧ ∃ kid, m' "kid" = some kid ∧ KidOk (L + 1) s'.heap kid b c ts k) E s := by
  have hts : ∀ t ∈ ts, t.length ≤ sizeLine := fun t ht => Nat.le_trans (cat_mem_le ht) (by rw [← hW, sizeLine_eq]; omega)
  have hlen : tl.length = ts.length := by rw [← htl, List.length_map]
  have hst' : st = body4.head! := by rw [hst]; rfl
  subst hst'
  clear hst
  refine wpAny_If (wpAny_isTrue_Compare1 (name_loc n hk (wpAny_Constant_str (PySem.P.eq_str (wpAny_truthy_bool ?_)))))
  rcases hk' with rfl | ⟨hne, hend⟩
  · rw [if_pos (by exact beq_self_eq_true _)]
    refine wpAny_execs_cons (wpAny_Assign_Name (Call_ (name_gl (B.keepsT (KeepX.refl _ _)) (v := .ref 244) (by kernel_rfl) (callWith_K B.K (by kernel_rfl) (args_cons ?_)))))
    refine comp_terms (tl := tl) (lo := L + 1) (hA.weaken (by omega)) B rfl (fun Q E' q => name_loc n h0.texts (q lt _ (Grown.of_heapT (KeepX.refl _ _)) hlt)) (by rw [hlen, sizeLine_eq]; omega) (fun p hp => hts _ (by rw [← htl]; exact List.mem_map_of_mem hp)) (fun s' G => grown_lt (s := { s with toks := s.toks + 1 }) B n G) fun l xs s₁ G₁ hl hx => ?_
    rw [htl] at hx
    have B₁ := B.keepsT G₁.hp
    refine args_nil ⟨B₁.K, ?_⟩
    refine wp_call_of (new_tl (items := xs) (tlC_244 w) (hA.weaken (by omega)) B₁ hl.isList (by rw [hx.1, sizeLine_eq]; omega) fun inner s₂ G₂ hi => ?_)
    have B₂ := B₁.keepsT G₂.hp
    have G₀₂ : Grown s s₂ := Grown.trans (Grown.of_heapT (KeepX.refl _ _)) (G₁.trans G₂)
    have n₂ := Ns.keepsT n B.tab G₀₂.hp fun q => q
    refine wpAny_storeName_local rfl n₂ fun h₃ n₃ e₃ => ?_
    dsimp only
    have B₃ : Bs w h₃ := hN.bs B₂ (KL.same hN e₃)
    have hx₃ : TermsN (L + 1) h₃ xs ts "ptext" := (hx.keepsX (X := fun _ => False) B₁.tab G₂.hp fun _ h => h.elim).keepsX B₂.tab (KL.same hN e₃) ltL
    have hi₃ : TLN (L + 1) h₃ inner 244 xs := (hi.weaken (grown_lt (s := { s with toks := s.toks + 1 }) B n G₁)).keepsX B₂.tab (KL.same hN e₃) ltL
    refine wpAny_execs_cons (wpAny_Assign_Name (eval_row (nC := "QuotedString") (xc := "within") (xy := "inner") (xb := "behind") (C := 217) (tlC_217 w) (by kernel_rfl) (by kernel_rfl) rfl (by decide) (hA.weaken (by omega)) B₃ n₃ hc rfl hb ec eb lc lb rfl rfl rfl (by decide) (by decide) (by decide) fun kid cw cb s₄ G₄ hcw hcb hkid => ?_))
    have B₄ := B₃.keepsT G₄.hp
    have n₄ := Ns.keepsT n₃ B₃.tab G₄.hp fun q => q
    refine wpAny_storeName_local rfl n₄ fun h₅ n₅ e₅ => ?_
    refine wpAny_execs_nil ⟨rfl, (LG.of (tk := s₂.toks + 1) hN G₀₂ e₃).trans (LG.of hN G₄ e₅), _, n₅, ?_, kid, rfl, .inl ⟨rfl, inner, xs, cw, cb, ?_, ?_, hcw.keepsX B₄.tab (KL.same hN e₅) ltL, hcb.keepsX B₄.tab (KL.same hN e₅) ltL, hkid.keepsX B₄.tab (KL.same hN e₅) ltL⟩⟩
    · exact ((Same.refl _ m).set (by decide)).set (by decide)
    · exact (hx₃.keepsX (X := fun _ => False) B₃.tab G₄.hp fun _ h => h.elim).keepsX B₄.tab (KL.same hN e₅) ltL
    · exact (hi₃.keepsX (X := fun _ => False) B₃.tab G₄.hp fun _ h => h.elim).keepsX B₄.tab (KL.same hN e₅) ltL
  · rw [if_neg (by intro q; exact hne (Str.ext' (Array.toList_inj.mp (eq_of_beq q))))]
    refine wpAny_execs_cons (wpAny_Assign_Name (Call_ (name_gl (B.keepsT (KeepX.refl _ _)) (v := .ref 415) (by kernel_rfl) (callWith_K B.K (by kernel_rfl) (args_cons (name_loc n h0.whole (args_cons (name_loc n hk (args_nil ⟨B.K, ?_⟩)))))))))
    refine wp_call_of (new_term (termC_415 w) (hA.weaken (by omega)) B (by rw [sizeLine_eq]; omega) fun inner s₂ G₂ hi => ?_)
    have B₂ := B.keepsT G₂.hp
    have G₀₂ : Grown s s₂ := Grown.trans (Grown.of_heapT (KeepX.refl _ _)) G₂
    have n₂ := Ns.keepsT n B.tab G₀₂.hp fun q => q
    refine wpAny_storeName_local rfl n₂ fun h₃ n₃ e₃ => ?_
    dsimp only
    have B₃ : Bs w h₃ := hN.bs B₂ (KL.same hN e₃)
    have hi₃ : TermN (L + 1) h₃ inner 415 (cat ts) k := by
      rw [← hW]
      exact (hi.weaken n.lt).keepsX B₂.tab (KL.same hN e₃) ltL
    refine wpAny_execs_cons (wpAny_Assign_Name (eval_row (nC := "Attribute") (xc := "within") (xy := "inner") (xb := "behind") (C := 264) (tlC_264 w) (by kernel_rfl) (by kernel_rfl) rfl (by decide) (hA.weaken (by omega)) B₃ n₃ hc rfl hb ec eb lc lb rfl rfl rfl (by decide) (by decide) (by decide) fun kid cw cb s₄ G₄ hcw hcb hkid => ?_))
    have B₄ := B₃.keepsT G₄.hp
    have n₄ := Ns.keepsT n₃ B₃.tab G₄.hp fun q => q
    refine wpAny_storeName_local rfl n₄ fun h₅ n₅ e₅ => ?_
    refine wpAny_execs_nil ⟨rfl, (LG.of (tk := s₂.toks + 1) hN G₀₂ e₃).trans (LG.of hN G₄ e₅), _, n₅, ?_, kid, rfl, .inr ⟨hne, hend, inner, cw, cb, ?_, hcw.keepsX B₄.tab (KL.same hN e₅) ltL, hcb.keepsX B₄.tab (KL.same hN e₅) ltL, hkid.keepsX B₄.tab (KL.same hN e₅) ltL⟩⟩
    · exact ((Same.refl _ m).set (by decide)).set (by decide)
    · exact (hi₃.keepsX (X := fun _ => False) B₃.tab G₄.hp fun _ h => h.elim).keepsX B₄.tab (KL.same hN e₅) ltL
end
end Mine

end
section
open PySem PySem.W PyProof.Rows PySem.Calls
set_option maxRecDepth 100000
namespace Mine
theorem ne_self (x : Str) : (x.cps.toList != x.cps.toList) = false := by simp
section
variable {w : World} {A : Around} {s : Shared} {E : Value → Shared → Prop} {L fa : Addr} {cd : Value} {m : Str → Option Value}
set_option maxHeartbeats 4000000 in
/-- one turn of the innermost loop -/
theorem turn4 {lt : Addr} {W S k : Str} {uw us uk : Tok} {a b c : Nat} {za zb zc : Int} {ua ub uc : Tok} {tl : List (Str × Tok)} {ts : List Str} (hN : LN w L) (hA : Small A 70) (B : Bs w s.heap) (n : s.heap.Ns L m) (h0 : N0 m lt W S uw us) (ha : m "ahead" = some (.int za ua)) (hb : m "behind" = some (.int zb ub)) (hc : m "within" = some (.int zc uc)) (hk : m "kind" = some (.str k uk))
    (ea : za = Int.ofNat a) (eb : zb = Int.ofNat b) (ec : zc = Int.ofNat c) (la : a ≤ 1) (lb : b ≤ 1) (lc : c ≤ 1) (hlt : Ls s.heap lt (strValues tl)) (htl : tl.map (·.1) = ts) (hW : W = cat ts) (hS : S = mq W) (hWl : W.length ≤ 1000) (hn : ts.length ≤ 1000) (hk' : k = "bare" ∨ (k ≠ "bare" ∧ Txt.endswith k "attrtext" = true)) :
    wpAny (MM w) A (execs body4 (lawEnv L fa cd)) (fun f s' => f = .next ∧ LG L s s' ∧ ∃ m', s'.heap.Ns L m' ∧ Same keys m m') E s := by
  refine wpAny_execs_cons (wpAny_mono (turn_kid hN (hA.weaken (by omega)) B n h0 hb hc hk eb ec lb lc hlt htl hW hWl hn hk' (hst := rfl)) (fun f s₁ h => ?_) fun _ _ e => e)
  obtain ⟨rfl, G₁, m₁, n₁, sm₁, kid, hkid, ok⟩ := h
  dsimp only
  have B₁ : Bs w s₁.heap := hN.bs B G₁.hp
  refine wpAny_execs_cons (wpAny_Assign_Name (eval_val (hA.weaken (by omega)) B₁ n₁ ((sm₁ "ahead" (by decide)).trans ha) hkid ea la fun value ca s₂ G₂ hca hv => ?_))
  have B₂ := B₁.keepsT G₂.hp
  have n₂ := Ns.keepsT n₁ B₁.tab G₂.hp fun q => q
  refine wpAny_storeName_local rfl n₂ fun h₃ n₃ e₃ => ?_
  dsimp only
  have B₃ : Bs w h₃ := hN.bs B₂ (KL.same hN e₃)
  have ok₃ : KidOk (L + 1) h₃ kid b c ts k := (ok.keepsX (X := fun _ => False) B₁.tab G₂.hp fun _ h => h.elim).keepsX B₂.tab (KL.same hN e₃) ltL
  have ca₃ : CfN (L + 1) h₃ ca := hca.keepsX B₂.tab (KL.same hN e₃) ltL
  have v₃ : TLN (L + 1) h₃ value 284 (row a 0 ca kid ca) := hv.keepsX B₂.tab (KL.same hN e₃) ltL
  have G₃ : LG L s { s₂ with heap := h₃, toks := s₂.toks + 1 } := G₁.trans (LG.of hN G₂ e₃)
  have sm₃ := sm₁.set (x := "value") (v := some value) (by decide)
  have hmid : (midOf k W).length ≤ 3000 := by
    unfold midOf
    split
    · rw [len_app, len_app]
      have := mq_len W
      have e : (⟨#[34]⟩ : Str).length = 1 := rfl
      rw [e]; omega
    · omega
  -- middle
  refine wpAny_execs_cons (wpAny_mono (Q := fun f s' => f = .next ∧ ∃ h' um, s'.heap = h' ∧ LG L { s₂ with heap := h₃, toks := s₂.toks + 1 } s' ∧ h'.Ns L (fun (x : Str) => if x = "middle" then some (.str (midOf k W) um) else (fun (x : Str) => if x = "value" then some value else m₁ x) x) ∧ Heap.SameBut L h₃ h') ?_ (fun f s₄ h => ?_) fun _ _ e => e)
  · refine wpAny_Assign_Name (wpAny_IfExp (wpAny_isTrue_Compare1 (name_loc n₃ ((sm₃ "kind" (by decide)).trans hk) (wpAny_Constant_str (PySem.P.eq_str (wpAny_truthy_bool ?_))))))
    have hsp := (sm₃ "spelled" (by decide)).trans h0.spelled
    have hwh := (sm₃ "whole" (by decide)).trans h0.whole
    by_cases hkb : k = "bare"
    · rw [if_pos (by rw [hkb]; exact beq_self_eq_true _)]
      have e1 : (⟨#[34]⟩ ++ S : Str).length ≤ 100000 := by rw [len_app, hS]; have := mq_len W; have e : (⟨#[34]⟩ : Str).length = 1 := rfl; rw [e]; omega
      have e2 : (⟨#[34]⟩ ++ S ++ ⟨#[34]⟩ : Str).length ≤ 100000 := by rw [len_app, len_app, hS]; have := mq_len W; have e : (⟨#[34]⟩ : Str).length = 1 := rfl; rw [e]; omega
      refine wpAny_BinOp (wpAny_BinOp (wpAny_Constant_str (name_loc n₃ hsp (add_s (x := ⟨#[34]⟩) e1 fun t' tk => wpAny_Constant_str (add_s (y := ⟨#[34]⟩) e2 fun t'' tk' => ?_)))))
      have e3 : (⟨#[34]⟩ ++ S ++ ⟨#[34]⟩ : Str) = midOf k W := by rw [midOf, if_pos hkb, hS]
      rw [e3]
      exact wpAny_storeName_local rfl n₃ fun h₅ n₅ e₅ => ⟨rfl, h₅, t'', rfl, LG.of hN (Grown.of_heapT (KeepX.refl _ _)) e₅, n₅, e₅⟩
    · rw [if_neg (by intro q; exact hkb (Str.ext' (Array.toList_inj.mp (eq_of_beq q))))]
      refine name_loc n₃ hwh ?_
      have e3 : W = midOf k W := by rw [midOf, if_neg hkb]
      have : wpAny (MM w) A (storeName (lawEnv L fa cd) "middle" (.str (midOf k W) uw)) (fun _ s' => Flow.next = Flow.next ∧ ∃ h' um, s'.heap = h' ∧ LG L { s₂ with heap := h₃, toks := s₂.toks + 1 } s' ∧ h'.Ns L (fun (x : Str) => if x = "middle" then some (.str (midOf k W) um) else (fun (x : Str) => if x = "value" then some value else m₁ x) x) ∧ Heap.SameBut L h₃ h') E { s₂ with heap := h₃, toks := s₂.toks + 1 + 1 } :=
        wpAny_storeName_local rfl n₃ fun h₅ n₅ e₅ => ⟨rfl, h₅, uw, rfl, LG.of hN (Grown.of_heapT (KeepX.refl _ _)) e₅, n₅, e₅⟩
      rw [← e3] at this ⊢
      exact this
  obtain ⟨rfl, h₄, um, rfl, G₄, n₄, e₄⟩ := h
  dsimp only
  have sm₄ := sm₃.set (x := "middle") (v := some (.str (midOf k W) um)) (by decide)
  have B₄ : Bs w s₄.heap := hN.bs B₃ (KL.same hN e₄)
  have hwr : (rep (a + c) ws2 ++ midOf k W ++ rep b ws2).length ≤ 3010 := by
    rw [len_app, len_app, rep_len, rep_len]
    have : ws2.length = 2 := rfl
    rw [this]; omega
  have hwr1 : (rep (a + c) ws2 ++ midOf k W).length ≤ 3010 := by
    rw [len_app, rep_len]
    have : ws2.length = 2 := rfl
    rw [this]; omega
  have nA := (sm₄ "ahead" (by decide)).trans ha
  have nB := (sm₄ "behind" (by decide)).trans hb
  have nC := (sm₄ "within" (by decide)).trans hc
  have nW := (sm₄ "whole" (by decide)).trans h0.whole
  -- written
  refine wpAny_execs_cons (wpAny_Assign_Name (wpAny_BinOp (wpAny_BinOp (eval_mul2 (x := ws2) n₄ nA nC ea ec la lc rfl rfl (by decide) (by decide) (by decide) (by decide) fun t1 k1 => name_loc n₄ rfl (add_s (Nat.le_trans hwr1 (by decide)) fun t2 k2 => eval_mul1 (x := ws2) n₄ nB eb lb rfl (by decide) (by decide) (by decide) fun t3 k3 => add_s (Nat.le_trans hwr (by decide)) fun t4 k4 => wpAny_storeName_local rfl n₄ fun h₅ n₅ e₅ => ?_)))))
  dsimp only
  have sm₅ := sm₄.set (x := "written") (v := some (.str (rep (a + c) ws2 ++ midOf k W ++ rep b ws2) t4)) (by decide)
  have B₅ : Bs w h₅ := hN.bs B₄ (KL.same hN e₅)
  have G₅ : ∀ tk, LG L s { s₄ with heap := h₅, toks := tk } := fun tk => (G₃.trans G₄).trans (LG.of hN (Grown.of_heapT (KeepX.refl _ _)) e₅)
  have O : Out w h₅ value a b c (midOf k W) W := by
    have t : ∀ {h' h'' : Heap}, True → True := fun _ => trivial
    have := KidOk.out (w := w) ((ok₃.keepsX B₃.tab (KL.same hN e₄) ltL).keepsX B₄.tab (KL.same hN e₅) ltL) B₅.tab la lb lc (by rw [← hW]; exact hWl) hn ((ca₃.keepsX B₃.tab (KL.same hN e₄) ltL).keepsX B₄.tab (KL.same hN e₅) ltL) ((v₃.keepsX B₃.tab (KL.same hN e₄) ltL).keepsX B₄.tab (KL.same hN e₅) ltL)
    rwa [← hW] at this
  clear ok₃ ca₃ v₃ hv hca ok
  -- the first test
  refine wpAny_execs_cons (wpAny_If (wpAny_isTrue_BoolOp (wpAny_allTrue_Or_cons (wpAny_isTrue_Compare1 (Call_ (name_str B₅ (callWith_type1 (name_loc n₅ (v := value) rfl (O.shows A _ _ _ (hA.weaken (by omega)) B₅ (KeepX.refl _ _) fun s₆ u₆ G₆ => ?_)))))))))
  have n₆ := Ns.keepsT n₅ B₅.tab G₆.hp fun q => q
  refine name_loc n₆ rfl (PySem.P.ne_str (wpAny_truthy_bool ?_))
  rw [ne_self, if_neg Bool.false_ne_true]
  have B₆ := B₅.keepsT G₆.hp
  refine wpAny_allTrue_Or_cons (wpAny_isTrue_Compare1 (Attribute_any_ (name_loc n₆ (v := value) rfl (O.strip A _ _ _ true (hA.weaken (by omega)) B₆ G₆.hp fun y s₇ G₇ ty => ?_))))
  have G₅₇ : KeepT h₅ s₇.heap := G₆.hp.trans G₇.hp
  have n₇ := Ns.keepsT n₅ B₅.tab G₅₇ fun q => q
  have B₇ := B₅.keepsT G₅₇
  refine name_loc n₇ ((sm₅ "whole" (by decide)).trans h0.whole) (ne_txt (hA.weaken (by omega)) B₇ (ty.keepsT B₅.tab G₅₇) (wpAny_truthy_bool ?_))
  rw [ne_self, if_neg Bool.false_ne_true]
  refine wpAny_allTrue_Or_cons (wpAny_isTrue_Compare1 (Call_ (name_str B₇ (callWith_type1 (name_loc n₇ (v := value) rfl (O.shows A _ _ _ (hA.weaken (by omega)) B₇ G₅₇ fun s₈ u₈ G₈ => ?_))))))
  have G₅₈ : KeepT h₅ s₈.heap := G₅₇.trans G₈.hp
  have n₈ := Ns.keepsT n₅ B₅.tab G₅₈ fun q => q
  have B₈ := B₅.keepsT G₅₈
  refine name_loc n₈ rfl (PySem.P.ne_str (wpAny_truthy_bool ?_))
  rw [ne_self, if_neg Bool.false_ne_true]
  refine wpAny_allTrue_Or_nil ?_
  rw [if_neg Bool.false_ne_true]
  refine wpAny_execs_nil ?_
  dsimp only
  -- the second test
  have hvl : (rep (a + c) sp ++ W ++ rep b sp).length ≤ 3010 := by
    rw [len_app, len_app, rep_len, rep_len]
    have : sp.length = 1 := rfl
    rw [this]; omega
  have hvl1 : (rep (a + c) sp ++ W).length ≤ 3010 := by
    rw [len_app, rep_len]
    have : sp.length = 1 := rfl
    rw [this]; omega
  refine wpAny_execs_cons (wpAny_If (wpAny_isTrue_Compare1 (Attribute_any_ (name_loc n₈ (v := value) rfl (O.vals A _ _ _ true (hA.weaken (by omega)) B₈ G₅₈ fun y s₉ G₉ ty => ?_)))))
  have G₅₉ : KeepT h₅ s₉.heap := G₅₈.trans G₉.hp
  have n₉ := Ns.keepsT n₅ B₅.tab G₅₉ fun q => q
  have B₉ := B₅.keepsT G₅₉
  refine wpAny_BinOp (wpAny_BinOp (eval_mul2 (x := sp) n₉ ((sm₅ "ahead" (by decide)).trans ha) ((sm₅ "within" (by decide)).trans hc) ea ec la lc rfl rfl (by decide) (by decide) (by decide) (by decide) fun t1 k1 => name_loc n₉ ((sm₅ "whole" (by decide)).trans h0.whole) (add_s (Nat.le_trans hvl1 (by decide)) fun t2 k2 => eval_mul1 (x := sp) n₉ ((sm₅ "behind" (by decide)).trans hb) eb lb rfl (by decide) (by decide) (by decide) fun t3 k3 => add_s (Nat.le_trans hvl (by decide)) fun t4 k4 => ?_)))
  refine ne_txt (hA.weaken (by omega)) B₉ (ty.keepsT B₅.tab G₅₉) (wpAny_truthy_bool ?_)
  rw [ne_self, if_neg Bool.false_ne_true]
  refine wpAny_execs_nil (wpAny_execs_nil ⟨rfl, ?_, _, n₉, sm₅.sub (by decide)⟩)
  exact (G₅ _).trans ⟨KeepT.to G₅₉, (G₉.os.trans G₈.os).trans (G₇.os.trans G₆.os), Nat.le_trans G₆.gz (Nat.le_trans G₇.gz (Nat.le_trans G₈.gz G₉.gz)), ((G₆.trans ((Grown.of_heapT (KeepX.refl _ _)).trans (G₇.trans ((Grown.of_heapT (KeepX.refl _ _)).trans (G₈.trans ((Grown.of_heapT (KeepX.refl _ _)).trans G₉)))))).go), ((G₆.trans ((Grown.of_heapT (KeepX.refl _ _)).trans (G₇.trans ((Grown.of_heapT (KeepX.refl _ _)).trans (G₈.trans ((Grown.of_heapT (KeepX.refl _ _)).trans G₉)))))).gb)⟩
end
end Mine

end
section
open PySem PySem.W PyProof.Rows PySem.Calls
set_option maxRecDepth 100000
namespace Mine
theorem KL.over {L I : Nat} {hb h h' : Heap} {w : World} (hN : LN w L) (k : KL L hb h) (k2 : ∀ b o, b ≠ L → b ≠ I → h.get? b = some o → h'.get? b = some o) (hI : ∀ b o, hb.get? b = some o → b ∉ tabA → b ≠ I) (hIt : ∀ c P, (c, P) ∈ tabL → I ≠ c ∧ I ≠ P) : KL L hb h' :=
  ⟨fun b o e n hx => k2 b o hx (hI b o e n) (k.kp b o e n hx), fun c P hm ps p q => by
    obtain ⟨m, p', q'⟩ := k.gr c P hm ps p q
    have c1 := hN.nt c P hm
    have c2 := hIt c P hm
    exact ⟨m, isCode_at p' (fun o e => k2 c o (Ne.symm c1.1) (Ne.symm c2.1) e) (fun o e => k2 P o (Ne.symm c1.2) (Ne.symm c2.2) e), tableAt_at q' (fun o e => k2 c o (Ne.symm c1.1) (Ne.symm c2.1) e) (fun o e => k2 P o (Ne.symm c1.2) (Ne.symm c2.2) e)⟩⟩
theorem iter_keepsL {h h' : Heap} {I l : Addr} {i : Nat} {L : Nat} (x : h.IsListIter I l i) (T : Tab h) (hI : I ≠ L) (k : KL L h h') : h'.IsListIter I l i :=
  let ⟨o, a, b, r⟩ := x; ⟨o, k.get T a (.inl fun z => by rw [b] at z; cases z) hI, b, r⟩
theorem ns_unique {h : Heap} {a : Addr} {m m' : Str → Option Value} (n : h.Ns a m) (n' : h.Ns a m') (y : Str) : m y = m' y := by
  obtain ⟨o, es, ep, e, hd, _, f⟩ := n
  obtain ⟨o', es', ep', e', hd', _, f'⟩ := n'
  rw [e] at e'
  cases e'
  rw [hd] at hd'
  cases hd'
  exact (f y).symm.trans (f' y)
section
variable {w : World} {A : Around} {s : Shared} {E : Value → Shared → Prop} {L fa : Addr} {cd : Value} {m : Str → Option Value}
/-- a for loop of the law over a list display -/
theorem law_for {x : Str} {px pos : Pos} {iter : Expr} {body : List Stmt} {items : List Value} {ks : List Str} (hN : LN w L) (hh : A.handled = none) (B : Bs w s.heap) (n : s.heap.Ns L m) (hx : (lawEnv L fa cd).kindOf x = some .local) (hxk : x ∉ ks)
    (hiter : ∀ (Q : Value → Shared → Prop) E', (∀ l s₁, Grown s s₁ → Ls s₁.heap l items → Q (.ref l) s₁) → wpAny (MM w) A (eval iter (lawEnv L fa cd)) Q E' s)
    (step : ∀ (i : Nat) v (s₁ : Shared) m₁ (E' : Value → Shared → Prop), items[i]? = some v → LG L s s₁ → Bs w s₁.heap → s₁.heap.Ns L m₁ → Same ks m m₁ → m₁ x = some v →
      wpAny (MM w) A (execs body (lawEnv L fa cd)) (fun f s' => f = .next ∧ LG L s₁ s' ∧ ∃ m', s'.heap.Ns L m' ∧ Same ks m₁ m') E' s₁)
    (hs : ∀ x, foldedSetIterable iter (lawEnv L fa cd) x = pure x := by intro _; rfl) :
    wpAny (MM w) A (exec (.For (.Name x px) iter body [] pos) (lawEnv L fa cd)) (fun f s' => f = .next ∧ LG L s s' ∧ ∃ m', s'.heap.Ns L m' ∧ Same ks m m') E s := by
  refine wpAny_For (hiter _ _ fun l s₁ G₁ hl => iter_list hl.isList ?_) hs
  have B₁ := B.keepsT G₁.hp
  have n₁ := Ns.keepsT n B.tab G₁.hp fun q => q
  have hIL : s₁.heap.objs.size ≠ L := Nat.ne_of_gt n₁.lt
  have hNt : ∀ b o, s.heap.get? b = some o → b ∉ tabA → b ≠ s₁.heap.objs.size := fun b o e nt => Nat.ne_of_lt (Heap.lt_size (G₁.hp.kp b o e nt fun q => q))
  have hIt := B₁.tab.above (Nat.le_refl s₁.heap.objs.size)
  refine for_seq (w := w) (items := items) (l := l) (I := s₁.heap.objs.size) hh hx rfl hIL (fun i s' => LG L s s' ∧ s'.heap.IsListIter s₁.heap.objs.size l i ∧ Ls s'.heap l items ∧ ∃ m', s'.heap.Ns L m' ∧ Same ks m m') (fun i s' J => ⟨J.2.1, (let ⟨_, e⟩ := J.2.2.1; ⟨_, _, e, rfl⟩), let ⟨m', a, _⟩ := J.2.2.2; ⟨m', a⟩⟩) ?_ ?_ ⟨(LG.grown G₁).trans (LG.grown (Grown.of_heapT (KeepT.of_keep push_keep))), ⟨_, Heap.get?_push_size _ rfl, rfl, rfl⟩, hl.keeps push_keep, m, n₁.keeps push_keep, Same.refl _ _⟩
  · intro i v s' m₁ h₂ E' hv J n' it₂ n₂ k₂
    obtain ⟨G, it, hls, m', nm', sm⟩ := J
    have kk : KL L s.heap h₂ := KL.over hN G.hp k₂ hNt hIt
    have GG : LG L s { s' with heap := h₂, toks := s'.toks + 1 } := ⟨kk, G.os, G.gz, G.go, G.gb⟩
    have B₂ : Bs w h₂ := hN.bs B kk
    have hls₂ : Ls h₂ l items := by
      obtain ⟨c, e⟩ := hls
      refine ⟨c, k₂ l _ (fun q => ?_) (fun q => ?_) e⟩
      · obtain ⟨o, es, ep, e', hd, _⟩ := n'
        have q' : l = L := q
        replace e' : s'.heap.get? L = some o := e'
        rw [← q', e] at e'
        cases e'
        cases hd
      · obtain ⟨o, a, b, _⟩ := it
        rw [← q, e] at a
        cases a
        exact absurd b (by simp)
    have sm₂ : Same ks m (fun y => if y = x then some v else m₁ y) := by
      refine Same.set (fun y hy => ?_) hxk
      have e1 := ns_unique n' nm' y
      rw [e1]
      exact sm y hy
    refine wpAny_mono (step i v _ _ E' hv GG B₂ n₂ sm₂ (if_pos rfl)) (fun f s₃ h => ?_) fun _ _ e => e
    obtain ⟨rfl, G₃, m₃, n₃, sm₃⟩ := h
    exact ⟨GG.trans G₃, iter_keepsL it₂ B₂.tab hIL G₃.hp, hls₂.keepsL B₂.tab n₂ G₃.hp, m₃, n₃, sm₂.trans sm₃⟩
  · intro s' h₁ J hk
    obtain ⟨G, it, hls, m', n', sm⟩ := J
    exact ⟨rfl, ⟨KL.over hN G.hp (fun b o _ hb e => hk b o hb e) hNt hIt, G.os, G.gz, G.go, G.gb⟩, m', n'.at' fun o e => hk L o (Ne.symm hIL) e, sm⟩
end
end Mine

end
section
open PySem PySem.W PyProof.Rows PySem.Calls
set_option maxRecDepth 100000
namespace Mine
def keys2 : List Str := ["texts", "whole", "spelled", "ahead", "behind"]
def keys1 : List Str := ["texts", "whole", "spelled", "ahead"]
/-- what stands through the loops: the texts' list and what belongs to it -/
structure Texts (h : Heap) (lt : Addr) (tl : List (Str × Tok)) (ts : List Str) (W S : Str) : Prop where
  ls : Ls h lt (strValues tl)
  tl : tl.map (·.1) = ts
  w : W = cat ts
  s : S = mq W
  len : W.length ≤ 900
  n : ts.length ≤ 900
theorem Texts.keepsL {h h' : Heap} {lt : Addr} {tl ts W S} {L : Nat} {m} (x : Texts h lt tl ts W S) (T : Tab h) (n : h.Ns L m) (k : KL L h h') : Texts h' lt tl ts W S := ⟨x.ls.keepsL T n k, x.tl, x.w, x.s, x.len, x.n⟩
theorem N0.same {m m' : Str → Option Value} {lt W S uw us} {ks : List Str} (x : N0 m lt W S uw us) (h : Same ks m m') (hk : ∀ y ∈ keys0, y ∈ ks) : N0 m' lt W S uw us :=
  ⟨(h _ (hk _ (by decide))).trans x.texts, (h _ (hk _ (by decide))).trans x.whole, (h _ (hk _ (by decide))).trans x.spelled⟩
theorem two {t u : Tok} : ∀ (i : Nat) v, ([.int 0 t, .int 1 u] : List Value)[i]? = some v → ∃ k z x, v = .int z x ∧ z = Int.ofNat k ∧ k ≤ 1 := fun i v h => by
  match i with
  | 0 => cases h; exact ⟨0, _, _, rfl, rfl, Nat.zero_le _⟩
  | 1 => cases h; exact ⟨1, _, _, rfl, rfl, Nat.le_refl _⟩
  | i + 2 => cases h
section
variable {w : World} {A : Around} {s : Shared} {E : Value → Shared → Prop} {L fa : Addr} {cd : Value} {m : Str → Option Value}
theorem ints01 {env : Env} {p1 p2 p3 : Pos} {Q : Value → Shared → Prop} (q : ∀ l s₁, Grown s s₁ → Ls s₁.heap l [.int 0 s.toks, .int 1 (s.toks + 1)] → Q (.ref l) s₁) : wpAny (MM w) A (eval (.List [.Constant (.int 0) 0 p1, .Constant (.int 1) 0 p2] p3) env) Q E s := by
  refine List_ (args_cons (wpAny_Constant_int (args_cons (wpAny_Constant_int (args_nil ?_)))))
  refine wpAny_newObj_type ?_ (by size_fits)
  exact q _ _ (Grown.of_heapT (KeepT.of_keep push_keep)) Ls.new
theorem kinds3 {env : Env} {p1 p2 p3 p4 : Pos} {Q : Value → Shared → Prop} (q : ∀ l s₁, Grown s s₁ → Ls s₁.heap l [.str "bare" s.toks, .str "attrtext" (s.toks + 1), .str "extended-attrtext" (s.toks + 1 + 1)] → Q (.ref l) s₁) : wpAny (MM w) A (eval (.List [.Constant (.str "bare") 0 p1, .Constant (.str "attrtext") 0 p2, .Constant (.str "extended-attrtext") 0 p3] p4) env) Q E s := by
  refine List_ (args_cons (wpAny_Constant_str (args_cons (wpAny_Constant_str (args_cons (wpAny_Constant_str (args_nil ?_)))))))
  refine wpAny_newObj_type ?_ (by size_fits)
  exact q _ _ (Grown.of_heapT (KeepT.of_keep push_keep)) Ls.new
/-- the loop over the three kinds -/
theorem turn3 {lt : Addr} {W S : Str} {uw us : Tok} {a b c : Nat} {za zb zc : Int} {ua ub uc : Tok} {tl : List (Str × Tok)} {ts : List Str} (hN : LN w L) (hA : Small A 70) (B : Bs w s.heap) (n : s.heap.Ns L m) (h0 : N0 m lt W S uw us) (ha : m "ahead" = some (.int za ua)) (hb : m "behind" = some (.int zb ub)) (hc : m "within" = some (.int zc uc))
    (ea : za = Int.ofNat a) (eb : zb = Int.ofNat b) (ec : zc = Int.ofNat c) (la : a ≤ 1) (lb : b ≤ 1) (lc : c ≤ 1) (X : Texts s.heap lt tl ts W S) :
    wpAny (MM w) A (execs body3 (lawEnv L fa cd)) (fun f s' => f = .next ∧ LG L s s' ∧ ∃ m', s'.heap.Ns L m' ∧ Same keys m m') E s := by
  refine wpAny_execs_cons (wpAny_mono (law_for (x := "kind") (ks := keys) (items := [.str "bare" s.toks, .str "attrtext" (s.toks + 1), .str "extended-attrtext" (s.toks + 1 + 1)]) hN hA.hd B n rfl (by decide)
    (fun Q E' q => kinds3 q) ?_) (fun f s' h => ?_) fun _ _ e => e)
  · intro i v s₁ m₁ E' hv G B₁ n₁ sm hm
    have X₁ := X.keepsL B.tab n G.hp
    have key : ∃ k u, v = .str k u ∧ (k = "bare" ∨ (k ≠ "bare" ∧ Txt.endswith k "attrtext" = true)) := by
      match i with
      | 0 => cases hv; exact ⟨_, _, rfl, .inl rfl⟩
      | 1 => cases hv; exact ⟨_, _, rfl, .inr ⟨by decide, by decide +kernel⟩⟩
      | 2 => cases hv; exact ⟨_, _, rfl, .inr ⟨by decide, by decide +kernel⟩⟩
      | i + 3 => cases hv
    obtain ⟨k, u, rfl, hk⟩ := key
    exact turn4 hN hA B₁ n₁ (h0.same sm (by decide)) ((sm _ (by decide)).trans ha) ((sm _ (by decide)).trans hb) ((sm _ (by decide)).trans hc) hm ea eb ec la lb lc X₁.ls X₁.tl X₁.w X₁.s (Nat.le_trans X₁.len (by decide)) (Nat.le_trans X₁.n (by decide)) hk
  · obtain ⟨rfl, h⟩ := h
    exact wpAny_execs_nil ⟨rfl, h⟩

/-- Value(_law_white(ahead) + parts + _law_white(behind)) -/
theorem eval_parts {p1 p2 p3 p4 p5 p6 p7 p8 p9 p10 p11 : Pos} {a b : Nat} {za zb : Int} {ua ub : Tok} {lp : Addr} {xs : List Value} {Q : Value → Shared → Prop}
    (hA : Small A 20) (B : Bs w s.heap) (n : s.heap.Ns L m) (ha : m "ahead" = some (.int za ua)) (hp : m "parts" = some (.ref lp)) (hb : m "behind" = some (.int zb ub)) (ea : za = Int.ofNat a) (eb : zb = Int.ofNat b) (la : a ≤ 1) (lb : b ≤ 1) (hlp : Ls s.heap lp xs) (hx : xs.length ≤ 1000)
    (hQ : ∀ v ca cb s', Grown s s' → CfN (L + 1) s'.heap ca → CfN (L + 1) s'.heap cb → TLN (L + 1) s'.heap v 284 (List.replicate a ca ++ xs ++ List.replicate b cb) → Q v s') :
    wpAny (MM w) A (eval (.Call (.Name "Value" p1) [.BinOp (.BinOp (.Call (.Name "_law_white" p2) [.Name "ahead" p3] [] p4) .Add (.Name "parts" p5) p6) .Add (.Call (.Name "_law_white" p7) [.Name "behind" p8] [] p9) p10] [] p11) (lawEnv L fa cd)) Q E s := by
  refine Call_ (name_gl B (v := .ref 284) (by kernel_rfl) (callWith_K B.K (by kernel_rfl) (args_cons ?_)))
  refine wpAny_BinOp (wpAny_BinOp (white hA B n ha ea (by omega) rfl (by decide) fun l₁ ca s₁ G₁ hca hl₁ => ?_))
  have B₁ := B.keepsT G₁.hp
  have n₁ := Ns.keepsT n B.tab G₁.hp fun q => q
  refine name_loc n₁ hp (add_ll hl₁ (hlp.keepsT B.tab G₁.hp) (by simp; rw [sizeLine_eq]; omega) fun h₃ k₃ hl₃ => ?_)
  have B₃ := B₁.keeps k₃
  have n₃ := n₁.keeps k₃
  refine white hA B₃ n₃ hb eb (by omega) rfl (by decide) fun l₄ cb s₄ G₄ hcb hl₄ => ?_
  have B₄ := B₃.keepsT G₄.hp
  refine add_ll (hl₃.keepsT B₃.tab G₄.hp) hl₄ (by simp; rw [sizeLine_eq]; omega) fun h₅ k₅ hl₅ => ?_
  have B₅ := B₄.keeps k₅
  refine args_nil ⟨B₅.K, ?_⟩
  have G₅ : Grown s { s₄ with heap := h₅ } := G₁.trans ((Grown.of_heapT (KeepT.of_keep k₃)).trans (G₄.trans (Grown.of_heapT (KeepT.of_keep k₅))))
  refine wp_call_of (new_tl (items := List.replicate a ca ++ xs ++ List.replicate b cb) (tlC_284 w) (hA.weaken (by omega)) B₅ hl₅.isList (by simp; rw [sizeLine_eq]; omega) fun v s₆ G₆ hv => ?_)
  have t' : ∀ {c'}, CfN (L + 1) s₄.heap c' → CfN (L + 1) s₆.heap c' := fun x => (x.keepsX (X := fun _ => False) B₄.tab (KeepT.of_keep k₅) fun _ h => h.elim).keepsX (X := fun _ => False) B₅.tab G₆.hp fun _ h => h.elim
  exact hQ v ca cb s₆ (G₅.trans G₆) (t' ((hca.keepsX (X := fun _ => False) B₁.tab (KeepT.of_keep k₃) fun _ h => h.elim).keepsX (X := fun _ => False) B₃.tab G₄.hp fun _ h => h.elim)) (t' hcb) (hv.weaken (grown_lt B n G₅))
end
end Mine

end
section
open PySem PySem.W PyProof.Rows PySem.Calls
set_option maxRecDepth 100000
namespace Mine
abbrev zS : Str := "z"
section
variable {w : World} {A : Around} {s : Shared} {E : Value → Shared → Prop} {L fa : Addr} {cd : Value} {m : Str → Option Value}
set_option maxHeartbeats 4000000 in
/-- one turn of the loop over behind -/
theorem turn2 {lt : Addr} {W S : Str} {uw us : Tok} {a b : Nat} {za zb : Int} {ua ub : Tok} {tl : List (Str × Tok)} {ts : List Str} (hN : LN w L) (hA : Small A 70) (B : Bs w s.heap) (n : s.heap.Ns L m) (h0 : N0 m lt W S uw us) (ha : m "ahead" = some (.int za ua)) (hb : m "behind" = some (.int zb ub))
    (ea : za = Int.ofNat a) (eb : zb = Int.ofNat b) (la : a ≤ 1) (lb : b ≤ 1) (X : Texts s.heap lt tl ts W S) :
    wpAny (MM w) A (execs body2 (lawEnv L fa cd)) (fun f s' => f = .next ∧ LG L s s' ∧ ∃ m', s'.heap.Ns L m' ∧ Same keys2 m m') E s := by
  refine wpAny_execs_cons (wpAny_mono (law_for (x := "within") (ks := keys2) (items := [.int 0 s.toks, .int 1 (s.toks + 1)]) hN hA.hd B n rfl (by decide) (fun Q E' q => ints01 q) ?_) (fun f s₁ h => ?_) fun _ _ e => e)
  · intro i v s₁ m₁ E' hv G B₁ n₁ sm hm
    obtain ⟨c, zc, uc, rfl, ec, lc⟩ := two i v hv
    refine wpAny_mono (turn3 hN hA B₁ n₁ (h0.same sm (by decide)) ((sm _ (by decide)).trans ha) ((sm _ (by decide)).trans hb) hm ea eb ec la lb lc (X.keepsL B.tab n G.hp)) (fun f s' h => ?_) fun _ _ e => e
    obtain ⟨rfl, G', m', n', sm'⟩ := h
    exact ⟨rfl, G', m', n', sm'.sub (by decide)⟩
  obtain ⟨rfl, G₁, m₁, n₁, sm₁⟩ := h
  dsimp only
  have B₁ : Bs w s₁.heap := hN.bs B G₁.hp
  have X₁ := X.keepsL B.tab n G₁.hp
  have hlen : tl.length = ts.length := by rw [← X.tl, List.length_map]
  have hts : ∀ t ∈ ts, t.length ≤ 900 := fun t ht => Nat.le_trans (cat_mem_le ht) (by rw [← X.w]; exact X.len)
  -- parts
  refine wpAny_execs_cons (terms_assign (y := "parts") (tl := tl ++ [(zS, s₁.toks)]) (L := L) (lo := L + 1) (m₀ := m₁) (hA.weaken (by omega)) B₁ rfl rfl (fun Q E' q => ?_) (by simp; rw [hlen, sizeLine_eq]; have := X.n; omega) (fun p hp => ?_) (fun s' G => grown_lt B₁ n₁ G) (Nat.lt_succ_self L) n₁ rfl rfl rfl hN.nt fun lp xs s₃ hG hl₃ hx n₃ => ?_)
  · refine wpAny_BinOp (name_loc n₁ ((sm₁ "texts" (by decide)).trans h0.texts) (List_ (args_cons (wpAny_Constant_str (args_nil ?_)))))
    refine wpAny_newObj_type ?_ (by size_fits)
    refine add_ll (X₁.ls.keeps push_keep) (Ls.new (xs := [.str zS s₁.toks])) (by simp [strValues_len]; rw [hlen, sizeLine_eq]; have := X.n; omega) fun h₂ k₂ hl => ?_
    refine q _ _ (Grown.of_heapT (KeepT.of_keep fun b o e => k₂ _ _ (push_keep _ _ e))) ?_
    have e : strValues tl ++ [.str zS s₁.toks] = strValues (tl ++ [(zS, s₁.toks)]) := by simp [strValues]
    rw [e] at hl
    exact hl
  · rcases List.mem_append.mp hp with h | h
    · exact Nat.le_trans (hts p.1 (by rw [← X.tl]; exact List.mem_map_of_mem h)) (by rw [sizeLine_eq]; decide)
    · rw [List.mem_singleton.mp h, sizeLine_eq]; exact Nat.le_of_ble_eq_true rfl
  have hx₃ : TermsN (L + 1) s₃.heap xs (ts ++ [zS]) "ptext" := by
    have e : (tl ++ [(zS, s₁.toks)]).map (·.1) = ts ++ [zS] := by rw [List.map_append, X.tl]; rfl
    rw [e] at hx
    exact hx
  clear hx
  have hxl : xs.length = ts.length + 1 := by rw [hx₃.1]; simp
  obtain ⟨s', G', kk, eo, eg⟩ := hG
  have G₃ : LG L s s₃ := G₁.trans ⟨kk, eo.trans G'.os, by rw [eg]; exact G'.gz, by rw [eg]; exact G'.go, by rw [eg]; exact G'.gb⟩
  have B₃ : Bs w s₃.heap := hN.bs B₁ kk
  dsimp only
  have sm₃ := sm₁.set (x := "parts") (v := some (.ref lp)) (by decide)
  -- value
  refine wpAny_execs_cons (wpAny_Assign_Name (eval_parts (hA.weaken (by omega)) B₃ n₃ ((sm₃ "ahead" (by decide)).trans ha) rfl ((sm₃ "behind" (by decide)).trans hb) ea eb la lb hl₃ (by rw [hxl]; have := X.n; omega) fun value ca cb s₄ G₄ hca hcb hv => ?_))
  have B₄ := B₃.keepsT G₄.hp
  have n₄ := Ns.keepsT n₃ B₃.tab G₄.hp fun q => q
  refine wpAny_storeName_local rfl n₄ fun h₅ n₅ e₅ => ?_
  dsimp only
  have B₅ : Bs w h₅ := hN.bs B₄ (KL.same hN e₅)
  have sm₅ := sm₃.set (x := "value") (v := some value) (by decide)
  have G₅ : ∀ tk, LG L s { s₄ with heap := h₅, toks := tk } := fun tk => G₃.trans (LG.of hN G₄ e₅)
  have hx₅ : TermsN (L + 1) h₅ xs (ts ++ [zS]) "ptext" := (hx₃.keepsX (X := fun _ => False) B₃.tab G₄.hp fun _ h => h.elim).keepsX B₄.tab (KL.same hN e₅) ltL
  have hv₅ : TLN (L + 1) h₅ value 284 (List.replicate a ca ++ xs ++ List.replicate b cb) := hv.keepsX B₄.tab (KL.same hN e₅) ltL
  have hl₅ : Ls h₅ lp xs := (hl₃.keepsT B₃.tab G₄.hp).keepsL B₄.tab n₄ (KL.same hN e₅)
  have ca₅ := hca.keepsX B₄.tab (KL.same hN e₅) ltL
  have cb₅ := hcb.keepsX B₄.tab (KL.same hN e₅) ltL
  have ecat : cat (ts ++ [zS]) = W ++ zS := by rw [cat_app, str_cat1, X.w]
  have hz1 : zS.length = 1 := rfl
  have hcl : (cat (ts ++ [zS])).length ≤ 1000 := by rw [ecat, len_app, hz1]; have := X.len; omega
  obtain ⟨y0, hy0⟩ : ∃ y0, xs[0]? = some y0 := ⟨xs[0]'(by omega), List.getElem?_eq_getElem _⟩
  obtain ⟨t0, ht0⟩ : ∃ t0, (ts ++ [zS])[0]? = some t0 := ⟨(ts ++ [zS])[0]'(by simp), List.getElem?_eq_getElem _⟩
  have St : Stripped w h₅ 60 value (rep a sp ++ cat (ts ++ [zS]) ++ rep b sp) := strip_parts B₅.tab la lb hcl (by rw [hxl]; have := X.n; omega) ca₅.cf cb₅.cf hx₅.terms hy0 ht0 hv₅.tl
  have eS : rep a sp ++ cat (ts ++ [zS]) ++ rep b sp = rep a sp ++ W ++ zS ++ rep b sp := by rw [ecat, ← str_assoc (rep a sp) W zS]
  rw [eS] at St
  have l1 : (rep a sp ++ W ++ zS ++ rep b sp).length ≤ 3000 := by
    rw [len_app, len_app, len_app, rep_len, rep_len, hz1]
    have : sp.length = 1 := rfl
    have := X.len
    rw [‹sp.length = 1›]; omega
  have l2 : (rep a sp ++ W ++ zS).length ≤ 3000 := by rw [len_app] at l1; omega
  have l3 : (rep a sp ++ W).length ≤ 3000 := by rw [len_app] at l2; omega
  refine wpAny_execs_cons (wpAny_If (wpAny_isTrue_Compare1 (Attribute_any_ (name_loc n₅ (v := value) rfl (St A _ _ _ true (hA.weaken (by omega)) B₅ (KeepX.refl _ _) fun y s₆ G₆ ty => ?_)))))
  have n₆ := Ns.keepsT n₅ B₅.tab G₆.hp fun q => q
  have B₆ := B₅.keepsT G₆.hp
  refine wpAny_BinOp (wpAny_BinOp (wpAny_BinOp (eval_mul1 (x := sp) n₆ ((sm₅ "ahead" (by decide)).trans ha) ea la rfl (by decide) (by decide) (by decide) fun t1 k1 => name_loc n₆ ((sm₅ "whole" (by decide)).trans h0.whole) (add_s (Nat.le_trans l3 (by decide)) fun t2 k2 => wpAny_Constant_str (add_s (y := zS) (Nat.le_trans l2 (by decide)) fun t3 k3 => eval_mul1 (x := sp) n₆ ((sm₅ "behind" (by decide)).trans hb) eb lb rfl (by decide) (by decide) (by decide) fun t4 k4 => add_s (Nat.le_trans l1 (by decide)) fun t5 k5 => ?_)))))
  refine ne_txt (hA.weaken (by omega)) B₆ (ty.keepsT B₅.tab G₆.hp) (wpAny_truthy_bool ?_)
  rw [ne_self, if_neg Bool.false_ne_true]
  refine wpAny_execs_nil ?_
  dsimp only
  obtain ⟨xv, dv, esv, nv, epv, rfl, e1, e2, _⟩ := hv₅
  have e1' := KeepT.get G₆.hp B₅.tab e1 (.inl fun z => by cases z)
  have hvl : (List.replicate a ca ++ xs ++ List.replicate b cb).length = a + (ts.length + 1) + b := by simp [hxl]; omega
  refine wpAny_execs_cons (wpAny_If (wpAny_isTrue_Compare1 (Call_ (name_len B₆ (callWith_builtin1 (name_loc n₆ rfl (call_len B₆ e1' rfl (by kernel_rfl) (slot_list_len.bind _) (by rw [hvl, sizeLine_eq]; have := X.n; omega) (fun A' P' p => len_tl e1' B₆ (by kernel_rfl) p) ?_)))))))
  rw [hvl]
  have hl₆ := hl₅.keepsT B₅.tab G₆.hp
  refine wpAny_BinOp (wpAny_BinOp (name_loc n₆ ((sm₅ "ahead" (by decide)).trans ha) ?_))
  refine Call_ (name_len B₆ (callWith_builtin1 (name_loc n₆ rfl ?_)))
  refine PyProof.Rows.len_list hl₆.isList (by simp; rw [hxl]; have := X.n; omega) ?_
  refine PySem.P.add_int (name_loc n₆ ((sm₅ "behind" (by decide)).trans hb) ?_)
  refine PySem.P.add_int (ne_int (wpAny_truthy_bool ?_))
  have ez : ((((a + (ts.length + 1) + b : Nat) : Int)) != (za + ((xs.toArray.size : Nat) : Int) + zb)) = false := by rw [ea, eb, List.size_toArray, hxl]; simp
  rw [ez, if_neg Bool.false_ne_true]
  exact wpAny_execs_nil (wpAny_execs_nil ⟨rfl, (G₅ _).trans (LG.grown (G₆.trans (Grown.of_heapT (KeepX.refl _ _)))), _, n₆, sm₅⟩)
end
end Mine

end
section
open PySem PySem.W PyProof.Rows PySem.Calls
set_option maxRecDepth 100000
namespace Mine
section
variable {w : World} {A : Around} {s : Shared} {E : Value → Shared → Prop} {L fa : Addr} {cd : Value} {m : Str → Option Value}
/-- the loop over behind -/
theorem turn1 {lt : Addr} {W S : Str} {uw us : Tok} {a : Nat} {za : Int} {ua : Tok} {tl : List (Str × Tok)} {ts : List Str} (hN : LN w L) (hA : Small A 70) (B : Bs w s.heap) (n : s.heap.Ns L m) (h0 : N0 m lt W S uw us) (ha : m "ahead" = some (.int za ua))
    (ea : za = Int.ofNat a) (la : a ≤ 1) (X : Texts s.heap lt tl ts W S) :
    wpAny (MM w) A (execs body1 (lawEnv L fa cd)) (fun f s' => f = .next ∧ LG L s s' ∧ ∃ m', s'.heap.Ns L m' ∧ Same keys1 m m') E s := by
  refine wpAny_execs_cons (wpAny_mono (law_for (x := "behind") (ks := keys1) (items := [.int 0 s.toks, .int 1 (s.toks + 1)]) hN hA.hd B n rfl (by decide) (fun Q E' q => ints01 q) ?_) (fun f s₁ h => ?_) fun _ _ e => e)
  · intro i v s₁ m₁ E' hv G B₁ n₁ sm hm
    obtain ⟨b, zb, ub, rfl, eb, lb⟩ := two i v hv
    refine wpAny_mono (turn2 hN hA B₁ n₁ (h0.same sm (by decide)) ((sm _ (by decide)).trans ha) hm ea eb la lb (X.keepsL B.tab n G.hp)) (fun f s' h => ?_) fun _ _ e => e
    obtain ⟨rfl, G', m', n', sm'⟩ := h
    exact ⟨rfl, G', m', n', sm'.sub (by decide)⟩
  · obtain ⟨rfl, h⟩ := h
    exact wpAny_execs_nil ⟨rfl, h⟩

theorem glues_strs {tl : List (Str × Tok)} {Q : Value → Shared → Prop} (hz : (cat (tl.map (·.1))).length ≤ sizeLine) (hQ : ∀ u tk, Q (.str (cat (tl.map (·.1))) u) { s with toks := tk }) : Glues s (strValues tl).toArray.toList Q := by
  have e : (tl.map fun p => ((.str p.1 p.2 : Value), p.1)).map (·.2) = tl.map (·.1) := by simp [List.map_map]
  refine ⟨tl.map fun p => (.str p.1 p.2, p.1), by simp [strValues], fun p hp => ?_, by rw [e]; exact hz, fun u tk => by rw [e]; exact hQ u tk⟩
  obtain ⟨q, _, rfl⟩ := List.mem_map.mp hp
  exact .inl ⟨_, rfl⟩

theorem pick_cat : ∀ ns : List Int, (cat (ns.map pick)).length ≤ 3 * ns.length
  | [] => Nat.zero_le _
  | n :: ns => by
    rw [List.map_cons, cat_cons, len_app, List.length_cons]
    have := pick_len n
    have := pick_cat ns
    omega

set_option maxHeartbeats 4000000 in
/-- the law's body -/
theorem law_walk {sc : Addr} {vs : List Value} {ns : List Int} {h₁ : Heap} {tk : Nat} (hN : LN w L) (hA : Small A 70) (B : Bs w s.heap) (F : Fr s.heap L h₁ m) (hm : m "script" = some (.ref sc)) (hsc : s.heap.IsList sc vs.toArray) (hi : IntsAre vs ns) (hn : ns.length ≤ 63) :
    wpAny (MM w) A (execs lawBody (lawEnv L fa cd)) (fun f s' => f = .ret (.bool true) ∧ LG L s s') E { s with heap := h₁, toks := tk } := by
  have hvl : vs.length ≤ 63 := by rw [hi.length]; exact hn
  have hsc₁ : h₁.IsList sc vs.toArray := by obtain ⟨o, e, r⟩ := hsc; exact ⟨o, F.keep _ _ e, r⟩
  have hps : (slicePick vs.toArray none (some 40) none).size ≤ 63 := Nat.le_trans (slicePick_size_le _ _ _ _) (by simpa using hvl)
  have hpi := hi.pick none (some 40) none
  have hpl := length_pickNums_le hi none (some 40) none
  generalize pickNums ns none (some 40) none = ns' at hpi hpl
  refine wpAny_execs_cons (wpAny_Assign_Name (Subscript_ (name_loc F.ns hm (wpAny_Slice (wpAny_of_eq (a := Value.none) rfl (show wpAny _ _ (eval _ _) _ _ _ from wpAny_Constant_int (wpAny_of_eq (a := Value.none) rfl ?_)))))))
  refine slice_list3 (s := { s with heap := h₁, toks := tk + 1 }) (news := []) F (fun p hp => absurd hp List.not_mem_nil) hsc₁ .none (.int 40 tk) .none (by decide) (fun h₂ F₂ N₂ => ?_) (hsz := by rw [List.size_toArray, sizeLine_eq]; omega)
  have hl₂ : Ls h₂ (h₁.objs.size + 1) (slicePick vs.toArray none (some 40) none).toList := ⟨0, (N₂ _ (.head _)).1⟩
  generalize hvs : (slicePick vs.toArray none (some 40) none).toList = vs' at hpi hl₂
  have hvl' : vs'.length ≤ 63 := by rw [← hvs, Array.length_toList]; exact hps
  refine wpAny_storeName_local rfl F₂.ns fun h₃ n₃ e₃ => ?_
  dsimp only
  have k₃ : KL L s.heap h₃ := KeepT.to (KeepX.trans (KeepT.of_keep F₂.keep) (KeepX.refl _ _)) |>.trans (KeepX.ext e₃.extBut rfl hN.nt)
  have G₃ : ∀ tk, LG L s { s with heap := h₃, toks := tk } := fun tk => ⟨k₃, rfl, Nat.le_refl _, fun _ _ => rfl, fun k hk v hv => (by rw [Array.getElem?_eq_none hk] at hv; cases hv)⟩
  have B₃ : Bs w h₃ := hN.bs B k₃
  have T₂ : Tab h₂ := B.tab.keeps F₂.keep
  have hl₃ : Ls h₃ (h₁.objs.size + 1) vs' := hl₂.keepsL T₂ F₂.ns (KL.same hN e₃)
  -- texts
  refine wpAny_execs_cons (texts_assign (y := "texts") (L := L) (vs := vs') (ns := ns') (hA.weaken (by omega)) B₃ hpi rfl (fun Q E' q => name_loc n₃ rfl (q _ _ (Grown.refl _) hl₃)) (by rw [sizeLine_eq]; omega) n₃ rfl rfl rfl hN.nt fun lt tl s₄ hG hl₄ htl n₄ => ?_)
  obtain ⟨s', G', kk, eo, eg⟩ := hG
  have G₄ : LG L s s₄ := (G₃ _).trans ⟨kk, eo.trans G'.os, by rw [eg]; exact G'.gz, by rw [eg]; exact G'.go, by rw [eg]; exact G'.gb⟩
  have B₄ : Bs w s₄.heap := hN.bs B G₄.hp
  dsimp only
  have hWl : (cat (tl.map (·.1))).length ≤ 189 := by
    rw [htl]
    exact Nat.le_trans (pick_cat ns') (by omega)
  have htn : (tl.map (·.1)).length ≤ 63 := by rw [htl, List.length_map]; omega
  generalize hts : tl.map (·.1) = ts at hWl htn
  -- whole
  refine wpAny_execs_cons (wpAny_Assign_Name (MethodCall_ (wpAny_Constant_str (GM.join (callWith_builtin rfl (evalArgs_plain (args_cons (name_loc n₄ rfl (args_nil ?_)))))))))
  refine join_list hl₄.isList (glues_strs (by rw [hts, sizeLine_eq]; omega) fun uw k5 => ?_)
  rw [hts]
  refine wpAny_storeName_local rfl n₄ fun h₅ n₅ e₅ => ?_
  dsimp only
  have G₅ : ∀ tk, LG L s { s₄ with heap := h₅, toks := tk } := fun tk => G₄.trans (LG.of hN (Grown.of_heapT (KeepX.refl _ _)) e₅)
  have B₅ : Bs w h₅ := hN.bs B (G₅ 0).hp
  have hl₅ : Ls h₅ lt (strValues tl) := hl₄.keepsL B₄.tab n₄ (KL.same hN e₅)
  -- spelled
  refine wpAny_execs_cons (wpAny_Assign_Name (MethodCall_ (wpAny_Constant_str (GM.join (callWith_builtin rfl (evalArgs_plain (spliced_cons ?_)))))))
  refine comp_signs (x := cat ts) (xt := uw) (hA.weaken (by omega)) B₅ (fun Q E' q => name_loc n₅ rfl q) (by rw [sizeLine_eq]; omega) fun la tl' s₆ G₆ hl₆ htl' => ?_
  refine spliced_nil (join_list hl₆.isList (glues_strs ?_ fun us k7 => ?_))
  · rw [htl', cat_esc, sizeLine_eq]
    have := mq_len (cat ts)
    omega
  rw [htl', cat_esc]
  have G₅₆ : Grown { s₄ with heap := h₅, toks := k5 } s₆ := Grown.trans (Grown.of_heapT (KeepX.refl _ _)) G₆
  have B₆ := B₅.keepsT G₆.hp
  have n₆ := Ns.keepsT n₅ B₅.tab G₆.hp fun q => q
  refine wpAny_storeName_local rfl n₆ fun h₇ n₇ e₇ => ?_
  dsimp only
  have G₇ : ∀ tk, LG L s { s₆ with heap := h₇, toks := tk } := fun tk => (G₅ k5).trans (LG.of hN ⟨G₅₆.hp, G₅₆.os, G₅₆.dr, G₅₆.gz, G₅₆.go, G₅₆.gb⟩ e₇)
  have B₇ : Bs w h₇ := hN.bs B (G₇ 0).hp
  have X₇ : Texts h₇ lt tl ts (cat ts) (mq (cat ts)) := ⟨(hl₅.keepsT B₅.tab G₆.hp).keepsL B₆.tab n₆ (KL.same hN e₇), hts, rfl, rfl, by omega, by omega⟩
  -- the loops
  refine wpAny_execs_cons (wpAny_mono (law_for (x := "ahead") (ks := keys0) (s := { s₆ with heap := h₇, toks := k7 + 1 }) (items := [.int 0 (k7 + 1), .int 1 (k7 + 1 + 1)]) hN hA.hd B₇ n₇ rfl (by decide) (fun Q E' q => ints01 q) ?_) (fun f s₈ h => ?_) fun _ _ e => e)
  · intro i v s₁ m₁ E' hv G B₁ n₁ sm hm'
    obtain ⟨a, za, ua, rfl, ea, la'⟩ := two i v hv
    have N7 : N0 m₁ lt (cat ts) (mq (cat ts)) uw us := ⟨(sm "texts" (by decide)).trans rfl, (sm "whole" (by decide)).trans rfl, (sm "spelled" (by decide)).trans rfl⟩
    refine wpAny_mono (turn1 hN hA B₁ n₁ N7 hm' ea la' (X₇.keepsL B₇.tab n₇ G.hp)) (fun f s' h => ?_) fun _ _ e => e
    obtain ⟨rfl, G', m', n', sm'⟩ := h
    exact ⟨rfl, G', m', n', sm'.sub (by decide)⟩
  obtain ⟨rfl, G₈, _⟩ := h
  exact wpAny_execs_cons (wpAny_Return_some (Constant_bool ⟨rfl, (G₇ _).trans G₈⟩))
end
end Mine

end
section
open PySem PySem.W PyProof.Rows PySem.Calls
set_option maxRecDepth 100000
namespace Mine
theorem nt_addr {a : Addr} {x y : Obj} : nt (a, x) = nt (a, y) := rfl
theorem filter_none {a : Addr} (h : ∀ x : Obj, nt (a, x) = false) : ∀ l : Frag, (l.filter nt).lookup a = none
  | [] => rfl
  | (b, x) :: l => by
    by_cases hb : b = a
    · subst hb
      rw [List.filter_cons_of_neg (by rw [h x]; exact Bool.false_ne_true)]
      exact filter_none h l
    · cases hx : nt (b, x) with
      | true =>
        rw [List.filter_cons_of_pos hx, List.lookup_cons]
        have : (a == b) = false := by simpa using fun e => hb (Eq.symm e)
        rw [this]
        exact filter_none h l
      | false =>
        rw [List.filter_cons_of_neg (by rw [hx]; exact Bool.false_ne_true)]
        exact filter_none h l
theorem kk_sub {a : Addr} {o : Obj} : ∀ l : Frag, (l.filter nt).lookup a = some o → l.lookup a = some o
  | [], h => by cases h
  | (b, x) :: l, h => by
    rw [List.lookup_cons]
    by_cases hb : a = b
    · subst hb
      cases hx : nt (a, x) with
      | true =>
        rw [List.filter_cons_of_pos hx, List.lookup_cons, beq_self_eq_true] at h
        rw [beq_self_eq_true]
        exact h
      | false =>
        rw [filter_none (fun y => nt_addr.trans hx) ((a, x) :: l)] at h
        cases h
    · have e : (a == b) = false := by simpa using hb
      rw [e]
      cases hx : nt (b, x) with
      | true =>
        rw [List.filter_cons_of_pos hx, List.lookup_cons, e] at h
        exact kk_sub l h
      | false =>
        rw [List.filter_cons_of_neg (by rw [hx]; exact Bool.false_ne_true)] at h
        exact kk_sub l h
section
variable {w : World} {h : Heap}
theorem tabAt_of {c P : Addr} {oc : Value} {od : Option Addr} {vs : Array Value} {sl : Array (Option Value)} {file : Str} {tf : Tok} {flags : Int} {tg : Tok} {inF : Bool} {text : Int} {tt : Tok} (hc : h.get? c = some ⟨oc, od, .fields vs, sl⟩) (hcls : oc = .type "code") (h11 : vs[11]? = some (.ref P)) (h11' : vs.getD 11 .none = .ref P) (h18 : vs.getD 18 .none = .str file tf) (h7 : vs.getD 7 .none = .int flags tg) (h9 : vs.getD 9 .none = .bool inF) (h10 : vs.getD 10 .none = .int text tt)
    (hP : h.get? P = some { cls := .none, data := .fields #[] }) (hne : c ≠ P) : TabAt h c P :=
  ⟨#[], ⟨_, vs, file, tf, flags, tg, inF, text, tt, _, hc, rfl, h11', h18, h7, h9, h10, hP, rfl, trivial, hne⟩, ⟨⟨_, vs, hc, hcls, rfl, h11⟩, hP⟩⟩
theorem tab_of_K (X : (Mine.hd.heap_39 w.params).In h) : Tab h where
  a := tabAt_of (X 57 _ rfl) rfl rfl rfl rfl rfl rfl rfl (X 53 _ rfl) (by decide)
  b := tabAt_of (X 72 _ rfl) rfl rfl rfl rfl rfl rfl rfl (X 68 _ rfl) (by decide)
  c := tabAt_of (X 232 _ rfl) rfl rfl rfl rfl rfl rfl rfl (X 228 _ rfl) (by decide)
  d := tabAt_of (X 239 _ rfl) rfl rfl rfl rfl rfl rfl rfl (X 235 _ rfl) (by decide)
theorem boot3 : bootBuiltins "str" = some (.type "str") ∧ bootBuiltins "len" = some (.builtin "len") ∧ bootBuiltins "super" = some (.type "super") := ⟨by decide +kernel, by decide +kernel, by decide +kernel⟩
theorem bs_of {mb : Str → Option Value} (X : (Mine.hd.heap_39 w.params).In h) (hb : h.Ns builtinsNs mb) (hbi : ∀ x : Str, x ≠ "__name__" → mb x = bootBuiltins x) (lim : h.NoLimit) : Bs w h :=
  ⟨fun a o e => X a o (kk_sub _ e), lim, ⟨mb, hb, (hbi _ (by decide)).trans boot3.1, (hbi _ (by decide)).trans boot3.2.1, (hbi _ (by decide)).trans boot3.2.2⟩, tab_of_K X⟩
theorem ln_of {L : Nat} (B : Bs w h) (hL : h.objs.size ≤ L) : LN w L where
  nk := fun a o e => Nat.ne_of_lt (Nat.lt_of_lt_of_le (Heap.lt_size (B.K a o e)) hL)
  ns := let ⟨_, n, _⟩ := B.lim; Nat.ne_of_lt (Nat.lt_of_lt_of_le n.lt hL)
  nb := let ⟨_, n, _⟩ := B.bi; Nat.ne_of_lt (Nat.lt_of_lt_of_le n.lt hL)
  nt := B.tab.above hL
theorem tabA_mem {b : Addr} (hb : b ∈ tabA) : ∃ c, (c, b) ∈ tabL := by
  simp only [tabA, List.mem_cons, List.mem_nil_iff, or_false] at hb
  rcases hb with rfl | rfl | rfl | rfl
  · exact ⟨57, by decide⟩
  · exact ⟨72, by decide⟩
  · exact ⟨232, by decide⟩
  · exact ⟨239, by decide⟩
theorem oldk_of {L : Nat} {h' : Heap} (T : Tab h) (hL : h.objs.size ≤ L) (k : KL L h h') : OldK h h' := by
  have key : ∀ b o, h.get? b = some o → asItWas h h' b o ∧ ∃ o', h'.get? b = some o' := fun b o e => by
    by_cases hb : b ∈ tabA
    · obtain ⟨c, hm⟩ := tabA_mem hb
      obtain ⟨ps, p, q⟩ := T.at hm
      obtain ⟨more, _, q'⟩ := k.gr c b hm ps p q
      have eo : o = { cls := .none, data := .fields ps } := Option.some.inj (e.symm.trans q.2)
      subst eo
      exact ⟨.inr (.inl ⟨q.isCodeTable, rfl, ps, more, rfl, q'.2⟩), _, q'.2⟩
    · have e' := k.kp b o e hb (Nat.ne_of_lt (Nat.lt_of_lt_of_le (Heap.lt_size e) hL))
      exact ⟨.inl e', o, e'⟩
  exact ⟨fun b o e => (key b o e).1, fun b o e => (key b o e).2⟩
theorem bare_of {L : Nat} {s s' : Shared} (G : LG L s s') (hg : s.gens = #[]) : AllBare s'.gens := fun y hy => by
  obtain ⟨k, hk, e⟩ := Array.mem_iff_getElem.mp hy
  exact G.gb k (by rw [hg]; exact Nat.zero_le _) y (by rw [← e]; exact Array.getElem?_eq_getElem hk)
end
end Mine

end
section
open PySem PySem.W PyProof.Rows PySem.Calls
set_option maxRecDepth 100000
set_option maxHeartbeats 8000000
namespace Mine
theorem final : PySem.Challenge.rw_dm0081_05.Holds := Mine.hd ⟨Mine.left_r _ _, (by
  intro w s₀ s₁ mg mb G Y fa o pm cd doc dV kV ho hd hcd hD hmg hg args vals as hpre hlay hrd hwl hlo
  have KX := kIn_of Y
  have X := (Ground.X G).1
  have V := (Ground.X G).2
  refine Ground.open G ?_
  intro T B D TE TW
  try (refine guard_noD D (by decide +kernel) ?_; clear D)
  obtain ⟨_, _, M⟩ := bmod_of_top T
  have TA := at_of_top T
  try (obtain ⟨_, _, he, B0⟩ := based_of_top T rfl hmg ho hd; have he' : cd = _ := he; subst he'; clear he)
  clear hmg
  have BS : Bs w s₁.heap := bs_of KX (Top.b T) (Top.builtins T) (Top.nolimit T)
  wrow_args hpre hlay hrd hwl hlo
  all_goals (
    first | refine callC_kw (enter_call ?_) | refine enter_call ?_ | refine callC_kw (enter_callW ?_) | refine enter_callW ?_ | w_how
    w_top on
    have K0 := below_caller (Top.heap T)
    w_call any ho hd hcd hD T F
    clear hd TA
    k_drop)
  have hA : ∀ env, Small (callerA.deeper env) 70 := fun env => ⟨rfl, Nat.le_of_ble_eq_true rfl, Nat.le_of_ble_eq_true rfl⟩
  rename IntsAre _ _ => hIs
  rename Heap.IsList _ _ _ => hsc
  refine wpAny_mono (law_walk (hN := ln_of BS (Nat.le_refl _)) (hA := hA _) (B := BS) (F := F) (hm := rfl) (hsc := hsc) (hi := hIs) (hn := by omega)) (fun f s' h => ?_) (fun _ _ e => e)
  obtain ⟨rfl, GG⟩ := h
  exact ⟨.inl ⟨.bool true, _, [], rfl, fun _ => rfl, .bool true, by kernel_rfl, fun _ => ⟨List.nodup_nil, fun _ h => absurd h List.not_mem_nil⟩⟩, oldk_of BS.tab (Nat.le_refl _) GG.hp, GG.os, bare_of GG hg⟩)⟩
end Mine

end
set_option maxRecDepth 100000 in
theorem PySem.Challenge.cw_dm0081_05_holds : PySem.Challenge.rw_dm0081_05.Holds := by
  exact Mine.final
