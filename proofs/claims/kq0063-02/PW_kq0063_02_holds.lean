import PyProof.Rows.All
import Wide.All
import OpenK.AllK
import Wide.FinOn
import Lean
import PySem.Challenge.RW_kq0063_02
open PySem PySem.W PySem.Calls PyProof.Rows
set_option Elab.async false
set_option autoImplicit false
set_option linter.unusedVariables false
set_option linter.unusedSimpArgs false
set_option linter.unusedSectionVars false
set_option maxRecDepth 100000
namespace Mine
local macro_rules | `(tactic| o_head $_) => `(tactic| skip)
set_option maxHeartbeats 8000000 in
theorem kd (h : PySem.Challenge.rw_kq0063_02.row.Holds) : PySem.Challenge.rw_kq0063_02.row.Holds := by
  k_head
  exact h
noncomputable section
noncomputable abbrev K02 : Params → Frag := Mine.kd.heap_1
noncomputable abbrev pw02 : Program := PySem.Challenge.pw_kq0063_02
noncomputable def as02 : List Addr := [2, 3, 32, 34, 35, 37, 38, 46, 48, 49, 51, 52, 53, 55, 56, 58, 59, 60, 62, 63, 65, 66, 67, 69, 70, 72, 73, 74, 75, 76, 77, 78, 81, 82, 84, 85, 87, 88, 89, 96, 97, 98, 99, 102, 104, 105, 107, 108, 109, 111, 112, 114, 115, 116, 118, 119, 121, 122, 123, 125, 126, 128, 129, 130, 131, 133, 134, 136, 137, 138, 139, 141, 142, 144, 145, 146, 147, 149, 150, 152, 153, 154, 155, 157, 158, 160, 161, 165, 166, 167, 169, 170, 172, 173, 175, 179, 181, 182, 184, 185, 186, 188, 189, 191, 192, 193, 195, 196, 198, 199, 200, 202, 203, 205, 206, 207, 209, 210, 212, 213, 214, 216, 217, 219, 220, 221, 224, 225, 226, 229, 230, 231, 233, 234, 236, 237, 238, 240, 241, 243, 244, 245, 247, 248, 250, 251, 252, 255, 256, 257, 260, 261, 262, 264, 265, 267, 268, 269, 272, 273, 274, 277, 278]
noncomputable def view02 : Program := { pw02 with main := { pw02.main with body := ([0, 1, 3, 5, 6, 8, 9, 10, 11, 12, 13, 20, 21, 23, 24, 26, 27, 29, 30, 31, 32, 33, 34, 35, 36, 37, 38, 39, 40, 41] : List Nat).filterMap fun i => pw02.main.body[i]? } }
noncomputable abbrev loose02 : List Str := ["bytes_types", "a2b_base64", "b2a_base64", "b64encode", "b64decode", "_twin_re_1", "_special_chars_map"]
noncomputable def Xt02 (s : Shared) : Bool := xlAt view02 [] s && recOk (RowW.records PySem.Challenge.rw_kq0063_02.row.toRowW) s
noncomputable def Eqn02 (w : World) : Prop := (openEnds treeTable pw02 w 5680).map (fun s => (openSeen view02 loose02 (importedModules pw02.main.body) Xt02 true s, (as02.map s.heap.get?, ([201, 187] : List Addr).map s.heap.get?))) = some (openGood view02 loose02, ((K02 w.params).map fun p => some p.2, ([201, 187] : List Addr).map fun _ => some (tabObj #[])))
end
set_option maxHeartbeats 0 in
noncomputable abbrev EqP (w : World) : { P : Prop // P → Eqn02 w } := ⟨_, fun h => by
  unfold Eqn02 openEnds fencedOpening topFrom
  rw [PySem.W.Fast.te14364793385576792824, PySem.W.Fast.te10274390034422433532, PySem.W.Fast.te1435165496053646825, PySem.W.Fast.te14289696077712309145, PySem.W.Fast.te14082659384304107361, PySem.W.Fast.te5923862056798008813, PySem.W.Fast.te8920871248978507458, PySem.W.Fast.te4187177175401517315]
  exact h⟩
theorem eqn_ff (w : World) : Eqn02 ((w.withFollow "special-get-raises" false).withFollow "comprehension-iter-twice" false) := (EqP _).2 (by kernel_rfl)
theorem eqn_ft (w : World) : Eqn02 ((w.withFollow "special-get-raises" false).withFollow "comprehension-iter-twice" true) := (EqP _).2 (by kernel_rfl)
theorem eqn_tf (w : World) : Eqn02 ((w.withFollow "special-get-raises" true).withFollow "comprehension-iter-twice" false) := (EqP _).2 (by kernel_rfl)
theorem eqn_tt (w : World) : Eqn02 ((w.withFollow "special-get-raises" true).withFollow "comprehension-iter-twice" true) := (EqP _).2 (by kernel_rfl)
theorem eqn02 (w : World) : Eqn02 w := byRow2 "comprehension-iter-twice" (P := Eqn02) (byRow2 "special-get-raises" (P := fun w => Eqn02 (w.withFollow "comprehension-iter-twice" false)) eqn_ff eqn_tf) (byRow2 "special-get-raises" (P := fun w => Eqn02 (w.withFollow "comprehension-iter-twice" true)) eqn_ft eqn_tt) w
abbrev rw02 : OpenLaw := PySem.Challenge.rw_kq0063_02
theorem said02 : OpenLaw.wellSaid PySem.Challenge.rw_kq0063_02 = true := by
  rw [PySem.W.Fast.te9446332074065402090]
  kernel_rfl
theorem isd02 : (defOf view02 "law").isSome = true := by kernel_rfl
noncomputable def d02 : DefRec := ((defOf view02 "law").get isd02).1
theorem def02 : defOf view02 rw02.row.name = some (d02, []) := by kernel_rfl
theorem name02 : d02.name = "law" := by kernel_rfl
theorem the02 : rw02.row.prog.theDef rw02.row.name = some (d02.params, d02.body, d02.scope) := by rw [PySem.W.Fast.te10235530238920679567]; kernel_rfl
theorem kw02 : kwWritten? d02.params.kwonlyargs d02.params.kw_defaults = some [] := by kernel_rfl
theorem ok02 : (chainsOk view02 && opensWell rw02.row.prog && (frees rw02.row.toRowW && rw02.row.within.isEmpty)) = true := by kernel_rfl
theorem wr02 : (!rw02.row.writes || rw02.row.records.isEmpty) = true := by kernel_rfl
theorem bare02 : rw02.row.prog.bare := ⟨rfl, rfl, rfl, rfl, rfl, by decide +kernel⟩
theorem prom02 : rw02.row.toRowW.promised := by w_witness2
theorem as02_eq : ∀ P, as02 = (K02 P).map (·.1) := fun P => by kernel_rfl
noncomputable abbrev hook02 : Hook := kmHook K02 as02 as02_eq [201, 187]
theorem left02 : LeftO rw02.row.prog view02 loose02 Xt02 (Hook.obs hook02) (Hook.val hook02) 5680 := fun w => eqn02 w
theorem hd02 (call : WalkO view02 loose02 (XL view02 []) (Hook.says hook02) rw02.row.toRowW d02 [] fun f vs => PySem.call f vs) : PySem.Challenge.rw_kq0063_02.Holds :=
  holds_law said02 fun said => holds_open left02 (Hook.of hook02) (Hook.keeps hook02) (fun s e => xl_of s (Bool.and_eq_true_iff.mp e).1) XL.keeps def02 the02 kw02
    (fun s e => recFacts_of (Bool.and_eq_true_iff.mp e).2) wr02 said ok02 bare02 prom02 call
end Mine
noncomputable section
set_option tactic.hygienic false
namespace Mine
theorem el02 {P1 P2 : Prop} {Q : Prop} (h : P1 ∧ P2) (k : P1 → P2 → Q) : Q := k h.1 h.2
theorem el03 {P1 P2 P3 : Prop} {Q : Prop} (h : P1 ∧ P2 ∧ P3) (k : P1 → P2 → P3 → Q) : Q := k h.1 h.2.1 h.2.2
theorem el04 {P1 P2 P3 P4 : Prop} {Q : Prop} (h : P1 ∧ P2 ∧ P3 ∧ P4) (k : P1 → P2 → P3 → P4 → Q) : Q := k h.1 h.2.1 h.2.2.1 h.2.2.2
theorem el05 {P1 P2 P3 P4 P5 : Prop} {Q : Prop} (h : P1 ∧ P2 ∧ P3 ∧ P4 ∧ P5) (k : P1 → P2 → P3 → P4 → P5 → Q) : Q := k h.1 h.2.1 h.2.2.1 h.2.2.2.1 h.2.2.2.2
theorem el06 {P1 P2 P3 P4 P5 P6 : Prop} {Q : Prop} (h : P1 ∧ P2 ∧ P3 ∧ P4 ∧ P5 ∧ P6) (k : P1 → P2 → P3 → P4 → P5 → P6 → Q) : Q := k h.1 h.2.1 h.2.2.1 h.2.2.2.1 h.2.2.2.2.1 h.2.2.2.2.2
theorem el11 {α1 : Sort _} {P1 : α1 → Prop} {Q : Prop} (h : ∃ x, P1 x) (k : ∀ x, P1 x → Q) : Q := h.elim fun x h => k x h
theorem el12 {α1 : Sort _} {P1 P2 : α1 → Prop} {Q : Prop} (h : ∃ x, P1 x ∧ P2 x) (k : ∀ x, P1 x → P2 x → Q) : Q := h.elim fun x h => k x h.1 h.2
theorem el13 {α1 : Sort _} {P1 P2 P3 : α1 → Prop} {Q : Prop} (h : ∃ x, P1 x ∧ P2 x ∧ P3 x) (k : ∀ x, P1 x → P2 x → P3 x → Q) : Q := h.elim fun x h => k x h.1 h.2.1 h.2.2
theorem el14 {α1 : Sort _} {P1 P2 P3 P4 : α1 → Prop} {Q : Prop} (h : ∃ x, P1 x ∧ P2 x ∧ P3 x ∧ P4 x) (k : ∀ x, P1 x → P2 x → P3 x → P4 x → Q) : Q := h.elim fun x h => k x h.1 h.2.1 h.2.2.1 h.2.2.2
theorem el15 {α1 : Sort _} {P1 P2 P3 P4 P5 : α1 → Prop} {Q : Prop} (h : ∃ x, P1 x ∧ P2 x ∧ P3 x ∧ P4 x ∧ P5 x) (k : ∀ x, P1 x → P2 x → P3 x → P4 x → P5 x → Q) : Q := h.elim fun x h => k x h.1 h.2.1 h.2.2.1 h.2.2.2.1 h.2.2.2.2
theorem el16 {α1 : Sort _} {P1 P2 P3 P4 P5 P6 : α1 → Prop} {Q : Prop} (h : ∃ x, P1 x ∧ P2 x ∧ P3 x ∧ P4 x ∧ P5 x ∧ P6 x) (k : ∀ x, P1 x → P2 x → P3 x → P4 x → P5 x → P6 x → Q) : Q := h.elim fun x h => k x h.1 h.2.1 h.2.2.1 h.2.2.2.1 h.2.2.2.2.1 h.2.2.2.2.2
theorem el21 {α1 : Sort _} {α2 : Sort _} {P1 : α1 → α2 → Prop} {Q : Prop} (h : ∃ x y, P1 x y) (k : ∀ x y, P1 x y → Q) : Q := h.elim fun x h => h.elim fun y h => k x y h
theorem el22 {α1 : Sort _} {α2 : Sort _} {P1 P2 : α1 → α2 → Prop} {Q : Prop} (h : ∃ x y, P1 x y ∧ P2 x y) (k : ∀ x y, P1 x y → P2 x y → Q) : Q := h.elim fun x h => h.elim fun y h => k x y h.1 h.2
theorem el23 {α1 : Sort _} {α2 : Sort _} {P1 P2 P3 : α1 → α2 → Prop} {Q : Prop} (h : ∃ x y, P1 x y ∧ P2 x y ∧ P3 x y) (k : ∀ x y, P1 x y → P2 x y → P3 x y → Q) : Q := h.elim fun x h => h.elim fun y h => k x y h.1 h.2.1 h.2.2
theorem el24 {α1 : Sort _} {α2 : Sort _} {P1 P2 P3 P4 : α1 → α2 → Prop} {Q : Prop} (h : ∃ x y, P1 x y ∧ P2 x y ∧ P3 x y ∧ P4 x y) (k : ∀ x y, P1 x y → P2 x y → P3 x y → P4 x y → Q) : Q := h.elim fun x h => h.elim fun y h => k x y h.1 h.2.1 h.2.2.1 h.2.2.2
theorem el25 {α1 : Sort _} {α2 : Sort _} {P1 P2 P3 P4 P5 : α1 → α2 → Prop} {Q : Prop} (h : ∃ x y, P1 x y ∧ P2 x y ∧ P3 x y ∧ P4 x y ∧ P5 x y) (k : ∀ x y, P1 x y → P2 x y → P3 x y → P4 x y → P5 x y → Q) : Q := h.elim fun x h => h.elim fun y h => k x y h.1 h.2.1 h.2.2.1 h.2.2.2.1 h.2.2.2.2
theorem el26 {α1 : Sort _} {α2 : Sort _} {P1 P2 P3 P4 P5 P6 : α1 → α2 → Prop} {Q : Prop} (h : ∃ x y, P1 x y ∧ P2 x y ∧ P3 x y ∧ P4 x y ∧ P5 x y ∧ P6 x y) (k : ∀ x y, P1 x y → P2 x y → P3 x y → P4 x y → P5 x y → P6 x y → Q) : Q := h.elim fun x h => h.elim fun y h => k x y h.1 h.2.1 h.2.2.1 h.2.2.2.1 h.2.2.2.2.1 h.2.2.2.2.2
theorem el31 {α1 : Sort _} {α2 : Sort _} {α3 : Sort _} {P1 : α1 → α2 → α3 → Prop} {Q : Prop} (h : ∃ x y z, P1 x y z) (k : ∀ x y z, P1 x y z → Q) : Q := h.elim fun x h => h.elim fun y h => h.elim fun z h => k x y z h
theorem el32 {α1 : Sort _} {α2 : Sort _} {α3 : Sort _} {P1 P2 : α1 → α2 → α3 → Prop} {Q : Prop} (h : ∃ x y z, P1 x y z ∧ P2 x y z) (k : ∀ x y z, P1 x y z → P2 x y z → Q) : Q := h.elim fun x h => h.elim fun y h => h.elim fun z h => k x y z h.1 h.2
theorem el33 {α1 : Sort _} {α2 : Sort _} {α3 : Sort _} {P1 P2 P3 : α1 → α2 → α3 → Prop} {Q : Prop} (h : ∃ x y z, P1 x y z ∧ P2 x y z ∧ P3 x y z) (k : ∀ x y z, P1 x y z → P2 x y z → P3 x y z → Q) : Q := h.elim fun x h => h.elim fun y h => h.elim fun z h => k x y z h.1 h.2.1 h.2.2
theorem el34 {α1 : Sort _} {α2 : Sort _} {α3 : Sort _} {P1 P2 P3 P4 : α1 → α2 → α3 → Prop} {Q : Prop} (h : ∃ x y z, P1 x y z ∧ P2 x y z ∧ P3 x y z ∧ P4 x y z) (k : ∀ x y z, P1 x y z → P2 x y z → P3 x y z → P4 x y z → Q) : Q := h.elim fun x h => h.elim fun y h => h.elim fun z h => k x y z h.1 h.2.1 h.2.2.1 h.2.2.2
theorem el35 {α1 : Sort _} {α2 : Sort _} {α3 : Sort _} {P1 P2 P3 P4 P5 : α1 → α2 → α3 → Prop} {Q : Prop} (h : ∃ x y z, P1 x y z ∧ P2 x y z ∧ P3 x y z ∧ P4 x y z ∧ P5 x y z) (k : ∀ x y z, P1 x y z → P2 x y z → P3 x y z → P4 x y z → P5 x y z → Q) : Q := h.elim fun x h => h.elim fun y h => h.elim fun z h => k x y z h.1 h.2.1 h.2.2.1 h.2.2.2.1 h.2.2.2.2
theorem el36 {α1 : Sort _} {α2 : Sort _} {α3 : Sort _} {P1 P2 P3 P4 P5 P6 : α1 → α2 → α3 → Prop} {Q : Prop} (h : ∃ x y z, P1 x y z ∧ P2 x y z ∧ P3 x y z ∧ P4 x y z ∧ P5 x y z ∧ P6 x y z) (k : ∀ x y z, P1 x y z → P2 x y z → P3 x y z → P4 x y z → P5 x y z → P6 x y z → Q) : Q := h.elim fun x h => h.elim fun y h => h.elim fun z h => k x y z h.1 h.2.1 h.2.2.1 h.2.2.2.1 h.2.2.2.2.1 h.2.2.2.2.2
theorem el41 {α1 : Sort _} {α2 : Sort _} {α3 : Sort _} {α4 : Sort _} {P1 : α1 → α2 → α3 → α4 → Prop} {Q : Prop} (h : ∃ x y z u, P1 x y z u) (k : ∀ x y z u, P1 x y z u → Q) : Q := h.elim fun x h => h.elim fun y h => h.elim fun z h => h.elim fun u h => k x y z u h
theorem el42 {α1 : Sort _} {α2 : Sort _} {α3 : Sort _} {α4 : Sort _} {P1 P2 : α1 → α2 → α3 → α4 → Prop} {Q : Prop} (h : ∃ x y z u, P1 x y z u ∧ P2 x y z u) (k : ∀ x y z u, P1 x y z u → P2 x y z u → Q) : Q := h.elim fun x h => h.elim fun y h => h.elim fun z h => h.elim fun u h => k x y z u h.1 h.2
theorem el44 {α1 : Sort _} {α2 : Sort _} {α3 : Sort _} {α4 : Sort _} {P1 P2 P3 P4 : α1 → α2 → α3 → α4 → Prop} {Q : Prop} (h : ∃ x y z u, P1 x y z u ∧ P2 x y z u ∧ P3 x y z u ∧ P4 x y z u) (k : ∀ x y z u, P1 x y z u → P2 x y z u → P3 x y z u → P4 x y z u → Q) : Q := h.elim fun x h => h.elim fun y h => h.elim fun z h => h.elim fun u h => k x y z u h.1 h.2.1 h.2.2.1 h.2.2.2
theorem el51 {α1 : Sort _} {α2 : Sort _} {α3 : Sort _} {α4 : Sort _} {α5 : Sort _} {P1 : α1 → α2 → α3 → α4 → α5 → Prop} {Q : Prop} (h : ∃ x y z u v, P1 x y z u v) (k : ∀ x y z u v, P1 x y z u v → Q) : Q := h.elim fun x h => h.elim fun y h => h.elim fun z h => h.elim fun u h => h.elim fun v h => k x y z u v h
inductive D where
 | none
 | bool (b : Bool)
 | int (i : Int)
 | str (l : List Nat)
 | bytes (l : List UInt8)
 | raw (v : Value)
 | list (ds : List D)
 | tup (ds : List D)
 | bm (id : String) (a : Addr)
 | rng (a b : Int)
 | code (q : Str)
 | fn (F : FuncData → Prop) (q : Str)
 | inst (C dx : Addr)
 | meth (f C dx : Addr)
noncomputable abbrev own (a : Addr) : D := .raw (.ref a)
noncomputable def IsBM (h : Heap) (q : Addr) (id : String) (a : Addr) : Prop := ∃ o, h.get? q = some o ∧ o.cls = .type "builtin_function_or_method" ∧ o.data = .fields #[.builtin id, .ref a]
noncomputable def PL (h : Heap) (a : Addr) (vs : List Value) : Prop := ∃ n, h.get? a = some { cls := .type "list", data := .seq vs.toArray n }
theorem PL.isList {h : Heap} {a : Addr} {vs : List Value} (x : PL h a vs) : h.IsList a vs.toArray := let ⟨n, e⟩ := x; ⟨_, e, rfl, n, rfl⟩
theorem PL.at {h h' : Heap} {a : Addr} {vs : List Value} (x : PL h a vs) (k : ∀ o, h.get? a = some o → h'.get? a = some o) : PL h' a vs := let ⟨n, e⟩ := x; ⟨n, k _ e⟩
theorem PL.noDict {h : Heap} {a : Addr} {vs : List Value} (x : PL h a vs) : h.NoDictAt (.ref a) := let ⟨n, e⟩ := x; ⟨_, e, rfl⟩
mutual
inductive Rep (X : List Addr) (h : Heap) : Value → D → Prop
 | none : Rep X h .none .none
 | bool (b : Bool) : Rep X h (.bool b) (.bool b)
 | int (i : Int) (t : Tok) : Rep X h (.int i t) (.int i)
 | str (l : List Nat) (t : Tok) : Rep X h (.str ⟨l.toArray⟩ t) (.str l)
 | bytes (l : List UInt8) (t : Tok) : Rep X h (.bytes l.toArray t) (.bytes l)
 | raw (v : Value) : Rep X h v (.raw v)
 | list {a : Addr} {vs : List Value} {ds : List D} : PL h a vs → a ∉ X → RepAll X h vs ds → Rep X h (.ref a) (.list ds)
 | tup {a : Addr} {vs : List Value} {ds : List D} : IsTup h a vs.toArray → a ∉ X → RepAll X h vs ds → Rep X h (.ref a) (.tup ds)
 | bm {a q : Addr} {id : String} : IsBM h q id a → q ∉ X → Rep X h (.ref q) (.bm id a)
 | rng {a b : Int} {q : Addr} {t u v : Tok} : IsRange h q a b 1 t u v → q ∉ X → Rep X h (.ref q) (.rng a b)
 | code {c : Addr} {o : Obj} {vs : Array Value} {q : Str} {t : Tok} : h.get? c = some o → o.cls = .type "code" → o.data = .fields vs → vs[1]? = some (.str q t) → c ∉ X → Rep X h (.ref c) (.code q)
 | fn {a : Addr} {o : Obj} {fd : FuncData} {F : FuncData → Prop} {q : Str} : h.get? a = some o → o.cls = .type "function" → o.data = .func fd → F fd → a ∉ X → Rep X h fd.code (.code q) → Rep X h (.ref a) (.fn F q)
 | inst {a C dx : Addr} : h.get? a = some (instObj C dx) → a ∉ X → Rep X h (.ref a) (.inst C dx)
 | meth {q f x C dx : Addr} : h.get? q = some (methodObj (.ref f) (.ref x)) → q ∉ X → Rep X h (.ref x) (.inst C dx) → Rep X h (.ref q) (.meth f C dx)
inductive RepAll (X : List Addr) (h : Heap) : List Value → List D → Prop
 | nil : RepAll X h [] []
 | cons {v : Value} {vs : List Value} {d : D} {ds : List D} : Rep X h v d → RepAll X h vs ds → RepAll X h (v :: vs) (d :: ds)
end
inductive RNone : Value → Prop | none : RNone .none
inductive RBool (b : Bool) : Value → Prop | bool : RBool b (.bool b)
inductive RInt (i : Int) : Value → Prop | int (t : Tok) : RInt i (.int i t)
inductive RStr (l : List Nat) : Value → Prop | str (t : Tok) : RStr l (.str ⟨l.toArray⟩ t)
inductive RBytes (l : List UInt8) : Value → Prop | bytes (t : Tok) : RBytes l (.bytes l.toArray t)
inductive RRaw (v : Value) : Value → Prop | raw : RRaw v v
inductive RList (X : List Addr) (h : Heap) (ds : List D) : Value → Prop | list {a : Addr} {vs : List Value} : PL h a vs → a ∉ X → RepAll X h vs ds → RList X h ds (.ref a)
inductive RTup (X : List Addr) (h : Heap) (ds : List D) : Value → Prop | tup {a : Addr} {vs : List Value} : IsTup h a vs.toArray → a ∉ X → RepAll X h vs ds → RTup X h ds (.ref a)
inductive RBm (X : List Addr) (h : Heap) (id : String) (a : Addr) : Value → Prop | bm {q : Addr} : IsBM h q id a → q ∉ X → RBm X h id a (.ref q)
inductive RRng (X : List Addr) (h : Heap) (a b : Int) : Value → Prop | rng {q : Addr} {t u v : Tok} : IsRange h q a b 1 t u v → q ∉ X → RRng X h a b (.ref q)
inductive RCode (X : List Addr) (h : Heap) (q : Str) : Value → Prop | code {c : Addr} {o : Obj} {vs : Array Value} {t : Tok} : h.get? c = some o → o.cls = .type "code" → o.data = .fields vs → vs[1]? = some (.str q t) → c ∉ X → RCode X h q (.ref c)
inductive RFn (X : List Addr) (h : Heap) (F : FuncData → Prop) (q : Str) : Value → Prop | fn {a : Addr} {o : Obj} {fd : FuncData} : h.get? a = some o → o.cls = .type "function" → o.data = .func fd → F fd → a ∉ X → Rep X h fd.code (.code q) → RFn X h F q (.ref a)
inductive RInst (X : List Addr) (h : Heap) (C dx : Addr) : Value → Prop | inst {a : Addr} : h.get? a = some (instObj C dx) → a ∉ X → RInst X h C dx (.ref a)
inductive RMeth (X : List Addr) (h : Heap) (f C dx : Addr) : Value → Prop | meth {q x : Addr} : h.get? q = some (methodObj (.ref f) (.ref x)) → q ∉ X → Rep X h (.ref x) (.inst C dx) → RMeth X h f C dx (.ref q)
noncomputable def RepI (X : List Addr) (h : Heap) (v : Value) : D → Prop
 | .none => RNone v
 | .bool b => RBool b v
 | .int i => RInt i v
 | .str l => RStr l v
 | .bytes l => RBytes l v
 | .raw w => RRaw w v
 | .list ds => RList X h ds v
 | .tup ds => RTup X h ds v
 | .bm id a => RBm X h id a v
 | .rng a b => RRng X h a b v
 | .code q => RCode X h q v
 | .fn F q => RFn X h F q v
 | .inst C dx => RInst X h C dx v
 | .meth f C dx => RMeth X h f C dx v
theorem Rep.inv {X : List Addr} {h : Heap} {v : Value} {d : D} : Rep X h v d → RepI X h v d
 | .none => .none
 | .bool b => .bool
 | .int i t => .int t
 | .str l t => .str t
 | .bytes l t => .bytes t
 | .raw v => .raw
 | .list x f r => .list x f r
 | .tup x f r => .tup x f r
 | .bm x f => .bm x f
 | .rng x f => .rng x f
 | .code e c d v f => .code e c d v f
 | .meth e f r => .meth e f r
 | .fn e c d z f r => .fn e c d z f r
 | .inst e f => .inst e f
inductive RNil : List Value → Prop | nil : RNil []
inductive RCons (X : List Addr) (h : Heap) (d : D) (ds : List D) : List Value → Prop | cons {v : Value} {vs : List Value} : Rep X h v d → RepAll X h vs ds → RCons X h d ds (v :: vs)
noncomputable def RepAllI (X : List Addr) (h : Heap) (vs : List Value) : List D → Prop
 | [] => RNil vs
 | d :: ds => RCons X h d ds vs
theorem RepAll.inv {X : List Addr} {h : Heap} {vs : List Value} {ds : List D} : RepAll X h vs ds → RepAllI X h vs ds
 | .nil => .nil
 | .cons x r => .cons x r
@[elab_as_elim] theorem Rep.eNone {P : Value → Prop} {X : List Addr} {h : Heap} {v : Value} (r : Rep X h v .none) (k : P .none) : P v := by replace r := Rep.inv r; cases r; exact k
@[elab_as_elim] theorem Rep.eBool {P : Value → Prop} {X : List Addr} {h : Heap} {v : Value} {b : Bool} (r : Rep X h v (.bool b)) (k : P (.bool b)) : P v := by replace r := Rep.inv r; cases r; exact k
@[elab_as_elim] theorem Rep.eInt {P : Value → Prop} {X : List Addr} {h : Heap} {v : Value} {i : Int} (r : Rep X h v (.int i)) (k : ∀ t, P (.int i t)) : P v := by replace r := Rep.inv r; cases r; exact k _
@[elab_as_elim] theorem Rep.eStr {P : Value → Prop} {X : List Addr} {h : Heap} {v : Value} {l : List Nat} (r : Rep X h v (.str l)) (k : ∀ t, P (.str ⟨l.toArray⟩ t)) : P v := by replace r := Rep.inv r; cases r; exact k _
@[elab_as_elim] theorem Rep.eBytes {P : Value → Prop} {X : List Addr} {h : Heap} {v : Value} {l : List UInt8} (r : Rep X h v (.bytes l)) (k : ∀ t, P (.bytes l.toArray t)) : P v := by replace r := Rep.inv r; cases r; exact k _
@[elab_as_elim] theorem Rep.eRaw {P : Value → Prop} {X : List Addr} {h : Heap} {v w : Value} (r : Rep X h v (.raw w)) (k : P w) : P v := by replace r := Rep.inv r; cases r; exact k
@[elab_as_elim] theorem Rep.eList {P : Value → Prop} {X : List Addr} {h : Heap} {v : Value} {ds : List D} (r : Rep X h v (.list ds)) (k : ∀ {a vs}, PL h a vs → a ∉ X → RepAll X h vs ds → P (.ref a)) : P v := by replace r := Rep.inv r; cases r with | list x y z => exact k x y z
@[elab_as_elim] theorem Rep.eTup {P : Value → Prop} {X : List Addr} {h : Heap} {v : Value} {ds : List D} (r : Rep X h v (.tup ds)) (k : ∀ {a vs}, IsTup h a vs.toArray → a ∉ X → RepAll X h vs ds → P (.ref a)) : P v := by replace r := Rep.inv r; cases r with | tup x y z => exact k x y z
@[elab_as_elim] theorem Rep.eBm {P : Value → Prop} {X : List Addr} {h : Heap} {v : Value} {id : String} {a : Addr} (r : Rep X h v (.bm id a)) (k : ∀ {q}, IsBM h q id a → q ∉ X → P (.ref q)) : P v := by replace r := Rep.inv r; cases r with | bm x y => exact k x y
@[elab_as_elim] theorem Rep.eRng {P : Value → Prop} {X : List Addr} {h : Heap} {v : Value} {a b : Int} (r : Rep X h v (.rng a b)) (k : ∀ {q t u w}, IsRange h q a b 1 t u w → q ∉ X → P (.ref q)) : P v := by replace r := Rep.inv r; cases r with | rng x y => exact k x y
@[elab_as_elim] theorem Rep.eInst {P : Value → Prop} {X : List Addr} {h : Heap} {v : Value} {C dx : Addr} (r : Rep X h v (.inst C dx)) (k : ∀ {a}, h.get? a = some (instObj C dx) → a ∉ X → P (.ref a)) : P v := by replace r := Rep.inv r; cases r with | inst x y => exact k x y
@[elab_as_elim] theorem Rep.eMeth {P : Value → Prop} {X : List Addr} {h : Heap} {v : Value} {f C dx : Addr} (r : Rep X h v (.meth f C dx)) (k : ∀ {q x}, h.get? q = some (methodObj (.ref f) (.ref x)) → q ∉ X → Rep X h (.ref x) (.inst C dx) → P (.ref q)) : P v := by replace r := Rep.inv r; cases r with | meth x y z => exact k x y z
@[elab_as_elim] theorem Rep.eFn {P : Value → Prop} {X : List Addr} {h : Heap} {v : Value} {F : FuncData → Prop} {q : Str} (r : Rep X h v (.fn F q)) (k : ∀ {a : Addr} {o : Obj} {fd : FuncData}, h.get? a = some o → o.cls = .type "function" → o.data = .func fd → F fd → a ∉ X → Rep X h fd.code (.code q) → P (.ref a)) : P v := by replace r := Rep.inv r; cases r with | fn a b c d e f => exact k a b c d e f
@[elab_as_elim] theorem RepAll.eNil {P : List Value → Prop} {X : List Addr} {h : Heap} {vs : List Value} (r : RepAll X h vs []) (k : P []) : P vs := by replace r := RepAll.inv r; cases r; exact k
@[elab_as_elim] theorem RepAll.eCons {P : List Value → Prop} {X : List Addr} {h : Heap} {vs : List Value} {d : D} {ds : List D} (r : RepAll X h vs (d :: ds)) (k : ∀ {v vs}, Rep X h v d → RepAll X h vs ds → P (v :: vs)) : P vs := by replace r := RepAll.inv r; cases r with | cons x y => exact k x y
local macro_rules | `(tactic| omega) => `(tactic| lia)
noncomputable def look (o : Obj) : Prop := (∃ xs n, o.data = .seq xs n) ∨ ((o.cls = .type "builtin_function_or_method" ∨ o.cls = .type "range" ∨ o.cls = .type "code" ∨ o.cls = .type "method") ∧ ∃ vs, o.data = .fields vs) ∨ (∃ fd, o.data = .func fd) ∨ o.data = .plain
noncomputable def Same (X : List Addr) (h h' : Heap) : Prop := ∀ b o, b ∉ X → look o → h.get? b = some o → h'.get? b = some o
theorem Same.of_keeps {X : List Addr} {h h' : Heap} (k : ∀ b o, h.get? b = some o → h'.get? b = some o) : Same X h h' := fun b o _ _ e => k b o e
theorem Same.of_but {X : List Addr} {h h' : Heap} {a : Addr} (k : Heap.SameBut a h h') (ha : a ∈ X ∨ ∀ o, h.get? a = some o → ¬ look o) : Same X h h' := fun b o hb hl e => by
 refine (k.2 b fun q => ?_).trans e
 subst q
 refine Or.elim ha (fun ha => ?_) (fun ha => ?_)
 ·exact hb ha
 ·exact ha o e hl
theorem Rep.map {X X' : List Addr} {h h' : Heap} (k : ∀ b o, b ∉ X → look o → h.get? b = some o → b ∉ X' ∧ h'.get? b = some o) {v : Value} {d : D} (r : Rep X h v d) : Rep X' h' v d :=
 Rep.rec (motive_1 := fun v d _ => Rep X' h' v d) (motive_2 := fun vs ds _ => RepAll X' h' vs ds) Rep.none Rep.bool Rep.int Rep.str Rep.bytes Rep.raw
  (fun ⟨n, e⟩ f _ r => let q := k _ _ f (.inl ⟨_, n, rfl⟩) e; Rep.list ⟨n, q.2⟩ q.1 r)
  (fun ⟨o, ho, hc, n, w⟩ f _ r => let q := k _ o f (.inl ⟨_, n, w⟩) ho; Rep.tup ⟨o, q.2, hc, n, w⟩ q.1 r)
  (fun ⟨o, ho, hc, w⟩ f => let q := k _ o f (.inr (.inl ⟨.inl hc, _, w⟩)) ho; Rep.bm ⟨o, q.2, hc, w⟩ q.1)
  (fun x f => let q := k _ _ f (.inr (.inl ⟨.inr (.inl rfl), _, rfl⟩)) x; Rep.rng q.2 q.1)
  (fun e c d v f => let q := k _ _ f (.inr (.inl ⟨.inr (.inr (.inl c)), _, d⟩)) e; Rep.code q.2 c d v q.1)
  (fun e c d z f _ r => let q := k _ _ f (.inr (.inr (.inl ⟨_, d⟩))) e; Rep.fn q.2 c d z q.1 r)
  (fun e f => let q := k _ _ f (.inr (.inr (.inr rfl))) e; Rep.inst q.2 q.1)
  (fun e f _ r => let q := k _ _ f (.inr (.inl ⟨.inr (.inr (.inr rfl)), _, rfl⟩)) e; Rep.meth q.2 q.1 r)
  RepAll.nil (fun _ _ x r => RepAll.cons x r) r
theorem RepAll.map {X X' : List Addr} {h h' : Heap} (k : ∀ b o, b ∉ X → look o → h.get? b = some o → b ∉ X' ∧ h'.get? b = some o) {vs : List Value} {ds : List D} (r : RepAll X h vs ds) : RepAll X' h' vs ds := by
 induction ds generalizing vs with
 | nil => refine RepAll.eNil r ?_; exact .nil
 | cons d ds ih => refine RepAll.eCons r fun x r => ?_; exact .cons (x.map k) (ih r)
theorem Rep.mono {X : List Addr} {h h' : Heap} (k : Same X h h') {v : Value} {d : D} (r : Rep X h v d) : Rep X h' v d := r.map fun b o hb l e => ⟨hb, k b o hb l e⟩
theorem RepAll.mono {X : List Addr} {h h' : Heap} (k : Same X h h') {vs : List Value} {ds : List D} (r : RepAll X h vs ds) : RepAll X h' vs ds := r.map fun b o hb l e => ⟨hb, k b o hb l e⟩
theorem Rep.sub {X X' : List Addr} {h : Heap} (k : ∀ a ∈ X, a ∈ X') {v : Value} {d : D} (r : Rep X' h v d) : Rep X h v d := r.map fun b o hb l e => ⟨fun q => hb (k b q), e⟩
theorem RepAll.sub {X X' : List Addr} {h : Heap} (k : ∀ a ∈ X, a ∈ X') {vs : List Value} {ds : List D} (r : RepAll X' h vs ds) : RepAll X h vs ds := r.map fun b o hb l e => ⟨fun q => hb (k b q), e⟩
theorem not_new {X : List Addr} {h : Heap} {a b : Addr} {o : Obj} (ha : h.get? a = none) (hb : b ∉ X) (e : h.get? b = some o) : b ∉ a :: X := fun q => by
 refine Or.elim (List.mem_cons.mp q) (fun q => ?_) (fun q => ?_)
 ·rw [q, ha] at e; injection e
 ·exact hb q
theorem Rep.new {X : List Addr} {h : Heap} {a : Addr} (ha : h.get? a = Option.none) {v : Value} {d : D} (r : Rep X h v d) : Rep (a :: X) h v d := r.map fun b o hb l e => ⟨not_new ha hb e, e⟩
theorem RepAll.new {X : List Addr} {h : Heap} {a : Addr} (ha : h.get? a = Option.none) {vs : List Value} {ds : List D} (r : RepAll X h vs ds) : RepAll (a :: X) h vs ds := r.map fun b o hb l e => ⟨not_new ha hb e, e⟩
theorem Rep.to {X X' : List Addr} {h : Heap} (k : ∀ a ∈ X', a ∈ X ∨ ∀ o, h.get? a = some o → ¬ look o) {v : Value} {d : D} (r : Rep X h v d) : Rep X' h v d := r.map fun b o hb l e => ⟨fun q => (k b q).elim hb fun z => z o e l, e⟩
theorem RepAll.to {X X' : List Addr} {h : Heap} (k : ∀ a ∈ X', a ∈ X ∨ ∀ o, h.get? a = some o → ¬ look o) {vs : List Value} {ds : List D} (r : RepAll X h vs ds) : RepAll X' h vs ds := r.map fun b o hb l e => ⟨fun q => (k b q).elim hb fun z => z o e l, e⟩
theorem Rep.keeps {X : List Addr} {h h' : Heap} {v : Value} {d : D} (x : Rep X h v d) (k : ∀ b o, h.get? b = some o → h'.get? b = some o) : Rep X h' v d := x.mono (.of_keeps k)
theorem RepAll.keeps {X : List Addr} {h h' : Heap} {v : List Value} {d : List D} (x : RepAll X h v d) (k : ∀ b o, h.get? b = some o → h'.get? b = some o) : RepAll X h' v d := x.mono (.of_keeps k)
theorem RepAll.length {X : List Addr} {h : Heap} {vs : List Value} {ds : List D} (r : RepAll X h vs ds) : vs.length = ds.length := by
 induction ds generalizing vs with
 | nil => refine RepAll.eNil r ?_; rfl
 | cons d ds ih => refine RepAll.eCons r fun _ r => ?_; rw [List.length_cons, List.length_cons, ih r]
theorem RepAll.append {X : List Addr} {h : Heap} {vs ws : List Value} {ds es : List D} (r : RepAll X h vs ds) (y : RepAll X h ws es) : RepAll X h (vs ++ ws) (ds ++ es) := by
 induction ds generalizing vs with
 | nil => refine RepAll.eNil r ?_; exact y
 | cons d ds ih => refine RepAll.eCons r fun x r => ?_; exact .cons x (ih r)
theorem RepAll.get {X : List Addr} {h : Heap} {vs : List Value} {ds : List D} {k : Nat} {d : D} (r : RepAll X h vs ds) (e : ds[k]? = some d) : ∃ v, vs[k]? = some v ∧ Rep X h v d := by
 induction ds generalizing vs k with
 | nil => injection e
 | cons d' ds ih => refine RepAll.eCons r fun x r => ?_; cases k with
  | zero => (injection e with y0; subst y0); exact ⟨_, rfl, x⟩
  | succ k => exact ih (k := k) r e
noncomputable def Live (X : List Addr) (h : Heap) : Prop := ∀ a ∈ X, ∃ o, h.get? a = some o
theorem Live.keeps {X : List Addr} {h h' : Heap} (x : Live X h) (k : ∀ b o, h.get? b = some o → h'.get? b = some o) : Live X h' := fun a ha => let ⟨o, e⟩ := x a ha; ⟨o, k a o e⟩
theorem Live.new {X : List Addr} {h : Heap} (x : Live X h) : h.objs.size ∉ X := fun q => by
 refine el11 (x _ q) fun o e => ?_
 exact Nat.lt_irrefl _ (Heap.lt_size e)
structure Kin (s s' : Shared) : Prop where
 os : s'.os = s.os
 bare : AllBare s.gens → AllBare s'.gens
theorem Kin.of {s : Shared} {h : Heap} {t : Nat} : Kin s { s with heap := h, toks := t } := ⟨rfl, id⟩
theorem Kin.trans {s₁ s₂ s₃ : Shared} (x : Kin s₁ s₂) (y : Kin s₂ s₃) : Kin s₁ s₃ := ⟨y.os.trans x.os, fun h => y.bare (x.bare h)⟩
structure Grow (s s' : Shared) : Prop where
 same : Kin s s'
 heap : ∀ b o, s.heap.get? b = some o → s'.heap.get? b = some o
theorem Grow.refl (s : Shared) : Grow s s := ⟨.of, fun _ _ e => e⟩
theorem Grow.trans {s₁ s₂ s₃ : Shared} (x : Grow s₁ s₂) (y : Grow s₂ s₃) : Grow s₁ s₃ := ⟨x.same.trans y.same, fun b o e => y.heap b o (x.heap b o e)⟩
theorem Grow.toks (s : Shared) (t : Nat) : Grow s { s with toks := t } := ⟨.of, fun _ _ e => e⟩
theorem Grow.of {s : Shared} {h : Heap} {t : Nat} (k : ∀ b o, s.heap.get? b = some o → h.get? b = some o) : Grow s { s with heap := h, toks := t } := ⟨.of, k⟩
theorem Grow.push (s : Shared) (o : Obj) (t : Nat) : Grow s { s with heap := s.heap.push o, toks := t } := ⟨.of, fun _ _ e => Heap.get?_push_of_some o e⟩
structure EvQ (X : List Addr) (d : D) (s : Shared) (v : Value) (s' : Shared) : Prop where
 rep : Rep X s'.heap v d
 grow : Grow s s'
structure EvsQ (X : List Addr) (ds : List D) (s : Shared) (vs : List Value) (s' : Shared) : Prop where
 rep : RepAll X s'.heap vs ds
 grow : Grow s s'
structure IsQ {α : Type} (b : α) (s : Shared) (r : α) (s' : Shared) : Prop where
 eq : r = b
 grow : Grow s s'
structure Gd where
 K : Frag
 prog : Program
 w : World
 p : Program
 loose : List Str
 mean : ExcName → Option Value
 mg : Str → Option Value
 mb : Str → Option Value
 H₀ : Heap
 X : K.In H₀
 T : PyProof.Rows.Top p loose mean mg mb H₀
noncomputable abbrev Loc := List (Str × D)
inductive OO where
 | list (ds : List D)
 | ns (fs : Loc)
 | cell (d : D)
 | pit (f : Nat → Nat → Option Str)
 | citer (df : D) (sent : List Nat) (dn : Bool)
 | dict (prog : Program) (w : World) (f : List Nat → Option Nat) (k : Nat)
noncomputable def NsB (h : Heap) (a : Addr) (m : Str → Option Value) (k : Nat) : Prop := ∃ o es ep, h.get? a = some o ∧ o.data = .dict es ep ∧ StrKeys es ∧ (∀ name, nsFind es name = m name) ∧ es.size ≤ k
theorem NsB.ns {h : Heap} {a : Addr} {m : Str → Option Value} {k : Nat} (x : NsB h a m k) : h.Ns a m := let ⟨o, es, ep, a, b, c, d, _⟩ := x; ⟨o, es, ep, a, b, c, d⟩
theorem NsB.at {h h' : Heap} {a : Addr} {m : Str → Option Value} {k : Nat} (x : NsB h a m k) (e : ∀ o, h.get? a = some o → h'.get? a = some o) : NsB h' a m k := let ⟨o, es, ep, e1, r⟩ := x; ⟨o, es, ep, e _ e1, r⟩
noncomputable def IsTurns (prog : Program) (w : World) (h : Heap) (a : Addr) (f : List Nat → Option Nat) (k : Nat) : Prop := ∃ ps, h.DictOf (strKind prog w) a ps ∧ 1 < a ∧ ps.length ≤ k ∧ ∀ l : List Nat, match f l with | .none => valueAt ps ⟨l.toArray⟩ = .none | .some i => ∃ t, valueAt ps ⟨l.toArray⟩ = some (.int (i : Int) t)
theorem IsTurns.at {prog : Program} {w : World} {h h' : Heap} {a : Addr} {f : List Nat → Option Nat} {k : Nat} (x : IsTurns prog w h a f k) (e : ∀ o, h.get? a = some o → h'.get? a = some o) : IsTurns prog w h' a f k := let ⟨ps, d, r⟩ := x; ⟨ps, d.at e, r⟩
noncomputable def OOIs (X : List Addr) (h : Heap) (a : Addr) : OO → Prop
 | .dict prog w f k => IsTurns prog w h a f k
 | .list ds => ∃ vs : List Value, PL h a vs ∧ RepAll X h vs ds
 | .ns fs => ∃ m, NsB h a m fs.length ∧ (∀ x, fs.lookup x = none → m x = none) ∧ ∀ x d, fs.lookup x = some d → ∃ v, m x = some v ∧ Rep X h v d
 | .cell d => ∃ v, h.IsCell a (some v) ∧ Rep X h v d
 | .pit f => ∃ ps, h.get? a = some (tabObj ps) ∧ TriplesOk ps.toList ∧ ∀ pos cv q, codeAmong pos ps.toList = some cv → f pos.line pos.col = some q → Rep X h cv (.code q)
 | .citer df sent dn => ∃ v t, h.get? a = some { cls := .type "callable_iterator", data := .fields (if dn then #[.none, .none, .bool true] else #[v, .str ⟨sent.toArray⟩ t, .bool false]) } ∧ (dn = false → Rep X h v df)
noncomputable abbrev Own := List (Addr × OO)
theorem OOIs.at {X : List Addr} {h h' : Heap} {a : Addr} {o : OO} (x : OOIs X h a o) (e : ∀ ob, h.get? a = some ob → h'.get? a = some ob) (m : Same X h h') : OOIs X h' a o := by
 cases o with
 | list ds => refine el12 x fun vs hl r => ?_; exact ⟨vs, hl.at e, r.mono m⟩
 | ns fs => refine el13 x fun f hn h1 h2 => ?_; exact ⟨f, hn.at e, h1, fun y d q => let ⟨v, e1, r⟩ := h2 y d q; ⟨v, e1, r.mono m⟩⟩
 | cell d => refine el12 x fun v y0 => ?_; refine el12 y0 fun o e1 e2 => ?_; intro r; exact ⟨v, ⟨o, e _ e1, e2⟩, r.mono m⟩
 | pit f => refine el13 x fun ps e1 t r => ?_; exact ⟨ps, e _ e1, t, fun pos cv q h1 h2 => (r pos cv q h1 h2).mono m⟩
 | citer df s dn => refine el22 x fun v t e1 r => ?_; exact ⟨v, t, e _ e1, fun z => (r z).mono m⟩
 | dict => exact IsTurns.at x e
theorem OOIs.keeps {X : List Addr} {h h' : Heap} {a : Addr} {o : OO} (x : OOIs X h a o) (k : ∀ b o, h.get? b = some o → h'.get? b = some o) : OOIs X h' a o := x.at (fun o e => k a o e) (.of_keeps k)
theorem OOIs.to {X X' : List Addr} {h : Heap} {a : Addr} {o : OO} (x : OOIs X h a o) (k : ∀ a ∈ X', a ∈ X ∨ ∀ o, h.get? a = some o → ¬ look o) : OOIs X' h a o := by
 cases o with
 | list ds => refine el12 x fun vs hl r => ?_; exact ⟨vs, hl, r.to k⟩
 | ns fs => refine el13 x fun f hn h1 h2 => ?_; exact ⟨f, hn, h1, fun y d q => let ⟨v, e1, r⟩ := h2 y d q; ⟨v, e1, r.to k⟩⟩
 | cell d => refine el12 x fun v e r => ?_; exact ⟨v, e, r.to k⟩
 | pit f => refine el13 x fun ps e1 t r => ?_; exact ⟨ps, e1, t, fun pos cv q h1 h2 => (r pos cv q h1 h2).to k⟩
 | citer df s dn => refine el22 x fun v t e1 r => ?_; exact ⟨v, t, e1, fun z => (r z).to k⟩
 | dict => exact x
theorem OOIs.subX {X X' : List Addr} {h : Heap} {a : Addr} {o : OO} (x : OOIs X h a o) (k : ∀ a ∈ X', a ∈ X) : OOIs X' h a o := x.to fun a q => .inl (k a q)
theorem OOIs.new {X : List Addr} {h : Heap} {a b : Addr} {o : OO} (x : OOIs X h a o) (hb : h.get? b = none) : OOIs (b :: X) h a o := x.to fun a q => (List.mem_cons.mp q).elim (fun e => .inr fun o z => by rw [e, hb] at z; injection z) .inl
theorem own_there {X : List Addr} {a : Addr} {o : OO} {h : Heap} (x : OOIs X h a o) : ∃ ob, h.get? a = some ob := by
 cases o with
 | list ds => refine el12 x fun vs y0 => ?_; refine el11 y0 fun n e => ?_; intro _; exact ⟨_, e⟩
 | ns fs => refine el12 x fun f y0 => ?_; refine el32 y0 fun o _ _ e _ => ?_; intro _; exact ⟨o, e⟩
 | cell d => refine el12 x fun v y0 => ?_; refine el12 y0 fun o e _ => ?_; intro _; exact ⟨o, e⟩
 | pit f => refine el12 x fun ps e _ => ?_; exact ⟨_, e⟩
 | citer df s dn => refine el22 x fun v t e _ => ?_; exact ⟨_, e⟩
 | dict => refine el12 x fun _ y0 => ?_; refine el32 y0 fun o _ _ e _ => ?_; intro _; exact ⟨o, e⟩
inductive VarIs (X : List Addr) (env : Env) (h : Heap) (n : Str) (d : D) : Prop
 | loc (m : Str → Option Value) (v : Value) : env.kindOf n = some .local → h.Ns env.locals m → m n = some v → Rep X h v d → VarIs X env h n d
 | cell (c : Addr) (v : Value) : (env.kindOf n = some .cell ∨ env.kindOf n = some .free) → env.cells.lookup n = some c → h.IsCell c (some v) → Rep X h v d → VarIs X env h n d
noncomputable def Mut (env : Env) (ow : Own) (b : Addr) : Prop := b = env.locals ∨ (∃ n, env.cells.lookup n = some b) ∨ b ∈ ow.map (·.1)
structure Fits (G : Gd) (env : Env) (X : List Addr) (ρ : Loc) (ow : Own) (s : Shared) : Prop where
 base : G.H₀.StaysIn s.heap
 fn : env.scope.kind = .function
 gl : env.globals = mainGlobals
 bl : env.builtins = builtinsNs
 ns : ∃ m, s.heap.Ns env.locals m
 vars : ∀ n d, ρ.lookup n = some d → VarIs X env s.heap n d
 owns : ∀ p ∈ ow, OOIs X s.heap p.1 p.2 ∧ p.1 ∈ X
 nd : (ow.map (·.1)).Nodup
 live : Live X s.heap
 apart : ∀ b o, G.H₀.get? b = some o → ¬ Mut env ow b
 inj : ∀ n n' c, env.cells.lookup n = some c → env.cells.lookup n' = some c → n = n'
 cel : ∀ x c, env.cells.lookup x = some c → ∃ v, s.heap.IsCell c v
 sep : ∀ p ∈ ow, p.1 ≠ env.locals ∧ ∀ n c, env.cells.lookup n = some c → p.1 ≠ c
theorem VarIs.keeps {X : List Addr} {env : Env} {h h' : Heap} {n : Str} {d : D} (x : VarIs X env h n d) (k : ∀ b o, h.get? b = some o → h'.get? b = some o) : VarIs X env h' n d := by
 cases x with
 | loc m v hk hn hm hr => exact .loc m v hk (hn.keeps k) hm (hr.keeps k)
 | cell c v hk hc hv hr => exact .cell c v hk hc (hv.keeps k) (hr.keeps k)
theorem Fits.keeps {G : Gd} {X : List Addr} {env : Env} {ρ : Loc} {ow : Own} {s s' : Shared} (x : Fits G env X ρ ow s) (k : Grow s s') : Fits G env X ρ ow s' :=
 ⟨fun b o e => k.heap b o (x.base b o e), x.fn, x.gl, x.bl, let ⟨m, hm⟩ := x.ns; ⟨m, hm.keeps k.heap⟩, fun n d e => (x.vars n d e).keeps k.heap, fun p hp => ⟨(x.owns p hp).1.keeps k.heap, (x.owns p hp).2⟩, x.nd, x.live.keeps k.heap, x.apart, x.inj, fun y c e => let ⟨v, h⟩ := x.cel y c e; ⟨v, h.keeps k.heap⟩, x.sep⟩
noncomputable def Sub (ρ' ρ : Loc) : Prop := ∀ n d, ρ'.lookup n = some d → ρ.lookup n = some d
theorem Sub.refl (ρ : Loc) : Sub ρ ρ := fun _ _ e => e
theorem Sub.nil (ρ : Loc) : Sub [] ρ := fun _ _ e => by injection e
theorem Sub.cons {n : Str} {d : D} {ρ' ρ : Loc} (h : ρ.lookup n = some d) (r : Sub ρ' ρ) : Sub ((n, d) :: ρ') ρ := fun x e q => by
 rw [List.lookup_cons] at q
 cases hb : x == n with
 | true => rw [hb] at q; (injection q with y0; subst y0); rw [beq_iff_eq.mp hb]; exact h
 | false => rw [hb] at q; exact r x e q
theorem Fits.sub {G : Gd} {X : List Addr} {env : Env} {ρ ρ' : Loc} {ow : Own} {s : Shared} (x : Fits G env X ρ ow s) (k : Sub ρ' ρ) : Fits G env X ρ' ow s :=
 ⟨x.base, x.fn, x.gl, x.bl, x.ns, fun n d e => x.vars n d (k n d e), x.owns, x.nd, x.live, x.apart, x.inj, x.cel, x.sep⟩
structure Room (n : Nat) (A : Around) : Prop where
 hd : A.handled = none
 dp : A.depth + n < recursionLimit
 un : A.units + 8 * n < cLine
theorem Room.le {n m : Nat} {A : Around} (x : Room n A) (h : m ≤ n) : Room m A := ⟨x.hd, by have := x.dp; omega, by have := x.un; omega⟩
theorem Room.in1 {n : Nat} {A : Around} (x : Room (n + 1) A) : Room n A.in1 := ⟨x.hd, by have := x.dp; show A.depth + n < _; omega, by have := x.un; show A.units + 1 + 8 * n < _; omega⟩
theorem Room.deeper {n : Nat} {A : Around} {env : Env} (x : Room (n + 1) A) : Room n (A.deeper env) := ⟨x.hd, by have := x.dp; show A.depth + 1 + n < _; omega, by have := x.un; show A.units + 3 + 8 * n < _; omega⟩
theorem Room.depth {n : Nat} {A : Around} (x : Room n A) : A.depth < recursionLimit := by have := x.dp; omega
theorem Room.units {n : Nat} {A : Around} (x : Room n A) : A.units < cLine := by have := x.un; omega
structure Ev (G : Gd) (n : Nat) (env : Env) (ρ : Loc) (ow : Own) (e : Expr) (d : D) : Prop where
 go : ∀ (X : List Addr) (A : Around) (s : Shared) (E : Value → Shared → Prop), Room n A → Fits G env X ρ ow s → wpAny (model G.prog G.w) A (eval e env) (EvQ X d s) E s
structure EvAll (G : Gd) (n : Nat) (env : Env) (ρ : Loc) (ow : Own) (es : List Expr) (ds : List D) : Prop where
 go : ∀ (pos : Pos) (X : List Addr) (A : Around) (s : Shared) (E : Value → Shared → Prop), Room n A → Fits G env X ρ ow s → wpAny (model G.prog G.w) A (spliced (backTo pos (starEach es env))) (EvsQ X ds s) E s
structure Tst (G : Gd) (n : Nat) (env : Env) (ρ : Loc) (ow : Own) (e : Expr) (b : Bool) : Prop where
 go : ∀ (X : List Addr) (A : Around) (s : Shared) (E : Value → Shared → Prop), Room n A → Fits G env X ρ ow s → wpAny (model G.prog G.w) A (isTrue e env (eval e env)) (IsQ b s) E s
structure FnIs (G : Gd) (n : Nat) (f : Value) (ds : List D) (d : D) : Prop where
 go : ∀ (X : List Addr) (A : Around) (s : Shared) (E : Value → Shared → Prop) (vs : List Value), Room n A → G.H₀.StaysIn s.heap → Live X s.heap → RepAll X s.heap vs ds →
  wpAny (model G.prog G.w) A (call f vs) (EvQ X d s) E s
section
variable {G : Gd} {n : Nat} {env : Env} {X : List Addr} {ρ : Loc} {ow : Own}
theorem ev_str {x : Str} {l : List Nat} {k : Nat} {pos : Pos} (h : x = ⟨l.toArray⟩) : Ev G n env ρ ow (.Constant (.str x) k pos) (.str l) := .mk <| fun X A s E _ F => by
 subst h; exact Constant_str ⟨.str l _, .toks _ _⟩
theorem ev_int {i : Int} {k : Nat} {pos : Pos} : Ev G n env ρ ow (.Constant (.int i) k pos) (.int i) := .mk <| fun X A s E _ F => wpAny_Constant_int ⟨.int i _, .toks _ _⟩
theorem ev_bool {b : Bool} {k : Nat} {pos : Pos} : Ev G n env ρ ow (.Constant (.bool b) k pos) (.bool b) := .mk <| fun X A s E _ F => wpAny_pure ⟨.bool b, .refl _⟩
theorem ev_none {k : Nat} {pos : Pos} : Ev G n env ρ ow (.Constant .none k pos) .none := .mk <| fun X A s E _ F => wpAny_pure ⟨.none, .refl _⟩
theorem ev_name {x : Str} {d : D} {pos : Pos} (h : ρ.lookup x = some d) (hd : (x == ("__debug__" : Str)) = false) (hc : (x == ("__classdict__" : Str)) = false) : Ev G n env ρ ow (.Name x pos) d := .mk <| fun X A s E _ F => by
 cases F.vars x d h with
 | loc m v hk hn hm hr => exact wpAny_Name (wpAny_loadName_local F.fn hk hn hm ⟨hr, .refl _⟩) hd
 | cell c v hk hc' hv hr =>
  refine Or.elim hk (fun hk => ?_) (fun hk => ?_)
  ·exact wpAny_Name (wpAny_loadName_cell F.fn hk hc' hv ⟨hr, .refl _⟩) hd
  ·exact wpAny_Name (wpAny_loadName_free F.fn hk hc' hv ⟨hr, .refl _⟩ hc) hd
theorem ev_glob {x : Str} {v : Value} {pos : Pos} (hk : env.kindOf x = some .globalImplicit) (e : nsIn G.K mainGlobals x = some (some v)) (hd : (x == ("__debug__" : Str)) = false) : Ev G n env ρ ow (.Name x pos) (.raw v) := .mk <| fun X A s E _ F =>
 Name_function_global F.fn hk (loadGlobal_global (by rw [F.gl]; exact G.T.g.keeps F.base) (mg_of G.X G.T.g e) ⟨.raw v, .refl _⟩) hd
theorem ev_builtin {x : Str} {v : Value} {pos : Pos} (hk : env.kindOf x = some .globalImplicit) (e : nsIn G.K mainGlobals x = some none) (hv : bootBuiltins x = some v) (hn : x ≠ "__name__") (hd : (x == ("__debug__" : Str)) = false) : Ev G n env ρ ow (.Name x pos) (.raw v) := .mk <| fun X A s E _ F =>
 Name_function_global F.fn hk (loadGlobal_builtin (by rw [F.gl]; exact G.T.g.keeps F.base) (mg_none_of G.X G.T.g e) (by rw [F.bl]; exact G.T.b.keeps F.base) ((G.T.builtins x hn).trans hv) ⟨.raw v, .refl _⟩) hd
theorem evAll_nil : EvAll G n env ρ ow [] [] := .mk <| fun pos X A s E _ F => spliced_nil ⟨.nil, .refl _⟩
noncomputable def starless : Expr → Bool | .Starred .. => false | _ => true
theorem star1 {env : Env} {e : Expr} {es : List Expr} (hs : starless e = true) : starEach (e :: es) env = (false, eval e env) :: starEach es env := by
 cases e <;> first | rfl | exact Bool.noConfusion hs
theorem star_eq {env : Env} {pos : Pos} {e : Expr} {es : List Expr} (hs : starless e = true) : backTo pos (starEach (e :: es) env) = (false, eval e env) :: backTo pos (starEach es env) := congrArg (backTo pos) (star1 hs)
theorem evAll_cons {e : Expr} {es : List Expr} {d : D} {ds : List D} (hs : starless e = true) (h : Ev G n env ρ ow e d) (r : EvAll G n env ρ ow es ds) : EvAll G n env ρ ow (e :: es) (d :: ds) := .mk <| fun pos X A s E R F => by
 rw [star_eq hs]
 refine spliced_cons (wpAny_mono (h.go X A s E R F) (fun v s₁ q => ?_) fun _ _ x => x)
 exact wpAny_mono (r.go pos X A s₁ E R (F.keeps q.2)) (fun vs s₂ q₂ => ⟨.cons (q.1.keeps q₂.2.heap) q₂.1, q.2.trans q₂.2⟩) fun _ _ x => x
structure BinIs (op : Operator) (d₁ d₂ d : D) : Prop where
 go : ∀ (prog : Program) (w : World) (X : List Addr) (A : Around) (s : Shared) (E : Value → Shared → Prop) v₁ v₂, A.units < cLine → Live X s.heap → Rep X s.heap v₁ d₁ → Rep X s.heap v₂ d₂ →
 wpAny (model prog w) A (binaryOp op v₁ v₂) (EvQ X d s) E s
end
section
section
variable {prog : Program} {w : World} {X : List Addr} {A : Around} {s : Shared} {E : Value → Shared → Prop}
theorem bin_add {a b : Int} : BinIs .Add (.int a) (.int b) (.int (a + b)) := .mk <| fun prog w X A s E v₁ v₂ _ _ r₁ r₂ => by
 refine Rep.eInt r₁ fun _ => ?_; refine Rep.eInt r₂ fun _ => ?_; exact add_int ⟨.int _ _, .toks _ _⟩
theorem bin_sub {a b : Int} : BinIs .Sub (.int a) (.int b) (.int (a - b)) := .mk <| fun prog w X A s E v₁ v₂ _ _ r₁ r₂ => by
 refine Rep.eInt r₁ fun _ => ?_; refine Rep.eInt r₂ fun _ => ?_; exact sub_int ⟨.int _ _, .toks _ _⟩
theorem bin_mul {a b : Int} (h : IntMulOk a b) : BinIs .Mult (.int a) (.int b) (.int (a * b)) := .mk <| fun prog w X A s E v₁ v₂ _ _ r₁ r₂ => by
 refine Rep.eInt r₁ fun _ => ?_; refine Rep.eInt r₂ fun _ => ?_; exact mul_int ⟨.int _ _, .toks _ _⟩ h
theorem bin_mod {a b : Int} (hb : 0 < b) : BinIs .Mod (.int a) (.int b) (.int (a % b)) := .mk <| fun prog w X A s E v₁ v₂ _ _ r₁ r₂ => by
 refine Rep.eInt r₁ fun _ => ?_; refine Rep.eInt r₂ fun _ => ?_
 refine mod_int (by omega) ?_
 rw [Int.fmod_eq_emod_of_nonneg _ (by omega)]
 exact ⟨.int _ _, .toks _ _⟩
theorem bin_div {a b : Int} (hb : 0 < b) (hp : Builtin.divisionGoesByPylong a b = false) : BinIs .FloorDiv (.int a) (.int b) (.int (a / b)) := .mk <| fun prog w X A s E v₁ v₂ _ _ r₁ r₂ => by
 refine Rep.eInt r₁ fun _ => ?_; refine Rep.eInt r₂ fun _ => ?_
 refine floordiv_int (by omega) ?_ (.inl hp)
 rw [Int.fdiv_eq_ediv_of_nonneg _ (by omega)]
 exact ⟨.int _ _, .toks _ _⟩
theorem bin_pow {a n : Int} (h0 : 0 ≤ n) (h1 : n ≤ 1000000) (h2 : a.natAbs < 2 ^ 64) : BinIs .Pow (.int a) (.int n) (.int (a ^ n.toNat)) := .mk <| fun prog w X A s E v₁ v₂ _ _ r₁ r₂ => by
 refine Rep.eInt r₁ fun _ => ?_; refine Rep.eInt r₂ fun _ => ?_; exact pow_int_small h0 h1 h2 ⟨.int _ _, .toks _ _⟩
theorem bin_shl {a n : Int} (h0 : 0 ≤ n) (h1 : n ≤ 1000000) (h2 : a.natAbs < 2 ^ 64) : BinIs .LShift (.int a) (.int n) (.int (a * 2 ^ n.toNat)) := .mk <| fun prog w X A s E v₁ v₂ _ _ r₁ r₂ => by
 refine Rep.eInt r₁ fun _ => ?_; refine Rep.eInt r₂ fun _ => ?_; exact lshift_int_small h0 h1 h2 ⟨.int _ _, .toks _ _⟩
theorem bin_shr {a n : Int} (h0 : 0 ≤ n) : BinIs .RShift (.int a) (.int n) (.int (a.fdiv (2 ^ n.toNat))) := .mk <| fun prog w X A s E v₁ v₂ _ _ r₁ r₂ => by
 refine Rep.eInt r₁ fun _ => ?_; refine Rep.eInt r₂ fun _ => ?_; exact rshift_int h0 ⟨.int _ _, .toks _ _⟩
theorem bin_and {a b : Int} : BinIs .BitAnd (.int a) (.int b) (.int (Builtin.bitAnd a b)) := .mk <| fun prog w X A s E v₁ v₂ _ _ r₁ r₂ => by
 refine Rep.eInt r₁ fun _ => ?_; refine Rep.eInt r₂ fun _ => ?_; exact and_int ⟨.int _ _, .toks _ _⟩
theorem bin_or {a b : Int} : BinIs .BitOr (.int a) (.int b) (.int (Builtin.bitOr a b)) := .mk <| fun prog w X A s E v₁ v₂ _ _ r₁ r₂ => by
 refine Rep.eInt r₁ fun _ => ?_; refine Rep.eInt r₂ fun _ => ?_; exact or_int ⟨.int _ _, .toks _ _⟩
theorem str_app (a b : List Nat) : ((⟨a.toArray⟩ : Str) ++ ⟨b.toArray⟩) = ⟨(a ++ b).toArray⟩ := by
 show Str.append _ _ = _
 simp [Str.append]
theorem bin_cat {a b : List Nat} (h : a.length + b.length ≤ sizeLine) : BinIs .Add (.str a) (.str b) (.str (a ++ b)) := .mk <| fun prog w X A s E v₁ v₂ _ _ r₁ r₂ => by
 refine Rep.eStr r₁ fun _ => ?_; refine Rep.eStr r₂ fun _ => ?_
 refine add_str (fun t' tk => ⟨?_, .toks _ _⟩) (by simpa [Str.length] using h)
 rw [str_app]; exact .str _ _
theorem bin_lists {a b : List D} (h : a.length + b.length ≤ sizeLine) : BinIs .Add (.list a) (.list b) (.list (a ++ b)) := .mk <| fun prog w X A s E v₁ v₂ _ hX r₁ r₂ => by
 refine Rep.eList r₁ @fun l vs hl fl ra => ?_
 refine Rep.eList r₂ @fun b ws hb fb rb => ?_
 refine el11 (id hl) fun n ho => ?_
 refine el11 (id hb) fun n2 ho2 => ?_
 have e : vs.toArray ++ ws.toArray = (vs ++ ws).toArray := by simp
 refine concat_meets ⟨_, ho, rfl⟩ ⟨_, ho2, rfl⟩ noFill_list_add seq_list_add PySem.F.slot_list_add PySem.F.entry_list_add (PySem.F.args_list_add_2 _ _) (list_addW l b vs.toArray ws.toArray n n2 _ _ _ _ (by have := ra.length; have := rb.length; simp; omega)) ⟨ho, ho2, ?_⟩
 rw [e]
 exact ⟨.list ⟨_, Heap.get?_push_size _ rfl⟩ hX.new ((ra.append rb).keeps fun _ _ e => Heap.get?_push_of_some _ e), .push _ _ _⟩
end
section
variable {G : Gd} {n : Nat} {env : Env} {X : List Addr} {ρ : Loc} {ow : Own}
theorem ev_binop {op : Operator} {e₁ e₂ : Expr} {pos : Pos} {d₁ d₂ d : D} (h₁ : Ev G n env ρ ow e₁ d₁) (h₂ : Ev G n env ρ ow e₂ d₂) (h : BinIs op d₁ d₂ d) : Ev G n env ρ ow (.BinOp e₁ op e₂ pos) d := .mk <| fun X A s E R F => by
 refine wpAny_BinOp (wpAny_mono (h₁.go X A s E R F) (fun v₁ s₁ q₁ => ?_) fun _ _ x => x)
 refine wpAny_mono (h₂.go X A s₁ E R (F.keeps q₁.2)) (fun v₂ s₂ q₂ => ?_) fun _ _ x => x
 exact wpAny_mono (h.go _ _ _ A s₂ E v₁ v₂ R.units (F.live.keeps (q₁.2.trans q₂.2).heap) (q₁.1.keeps q₂.2.heap) q₂.1) (fun v s' q => ⟨q.1, (q₁.2.trans q₂.2).trans q.2⟩) fun _ _ x => x
structure CmpIs (op : CmpOp) (d₁ d₂ : D) (b : Bool) : Prop where
 go : ∀ (prog : Program) (w : World) (X : List Addr) (A : Around) (s : Shared) (E : Value → Shared → Prop) v₁ v₂, A.units + 64 < cLine → Rep X s.heap v₁ d₁ → Rep X s.heap v₂ d₂ →
 wpAny (model prog w) A (compareOp op v₁ v₂) (IsQ (.bool b : Value) s) E s
theorem ev_cmp {op : CmpOp} {e₁ e₂ : Expr} {pos : Pos} {d₁ d₂ : D} {b : Bool} (hm : behindInMarks op e₂ = false) (h₁ : Ev G (n + 8) env ρ ow e₁ d₁) (h₂ : Ev G (n + 8) env ρ ow e₂ d₂) (h : CmpIs op d₁ d₂ b) : Ev G (n + 8) env ρ ow (.Compare e₁ [op] [e₂] pos) (.bool b) := .mk <| fun X A s E R F => by
 refine wpAny_Compare1 (wpAny_mono (h₁.go X A s E R F) (fun v₁ s₁ q₁ => ?_) fun _ _ x => x) hm
 refine wpAny_mono (h₂.go X A s₁ E R (F.keeps q₁.2)) (fun v₂ s₂ q₂ => ?_) fun _ _ x => x
 refine wpAny_mono (h.go _ _ X A s₂ E v₁ v₂ (by have := R.un; omega) (q₁.1.keeps q₂.2.heap) q₂.1) (fun v s' q => ?_) fun _ _ x => x
 obtain ⟨rfl, g⟩ := q
 exact ⟨.bool b, (q₁.2.trans q₂.2).trans g⟩
theorem tst_cmp {op : CmpOp} {e₁ e₂ : Expr} {pos : Pos} {d₁ d₂ : D} {b : Bool} (hm : behindInMarks op e₂ = false) (h₁ : Ev G (n + 8) env ρ ow e₁ d₁) (h₂ : Ev G (n + 8) env ρ ow e₂ d₂) (h : CmpIs op d₁ d₂ b) : Tst G (n + 8) env ρ ow (.Compare e₁ [op] [e₂] pos) b := .mk <| fun X A s E R F => by
 refine wpAny_isTrue_Compare1 (wpAny_mono (h₁.go X A s E R F) (fun v₁ s₁ q₁ => ?_) fun _ _ x => x) hm
 refine wpAny_mono (h₂.go X A s₁ E R (F.keeps q₁.2)) (fun v₂ s₂ q₂ => ?_) fun _ _ x => x
 refine wpAny_mono (h.go _ _ X A s₂ E v₁ v₂ (by have := R.un; omega) (q₁.1.keeps q₂.2.heap) q₂.1) (fun v s' q => ?_) fun _ _ x => x
 obtain ⟨rfl, g⟩ := q
 exact wpAny_truthy_bool ⟨rfl, (q₁.2.trans q₂.2).trans g⟩
theorem cmp_eq_int {a b : Int} : CmpIs .Eq (.int a) (.int b) (a == b) := .mk <| fun prog w X A s E v₁ v₂ _ r₁ r₂ => by
 refine Rep.eInt r₁ fun _ => ?_; refine Rep.eInt r₂ fun _ => ?_; exact eq_int ⟨rfl, .refl _⟩
theorem cmp_ne_int {a b : Int} : CmpIs .NotEq (.int a) (.int b) (a != b) := .mk <| fun prog w X A s E v₁ v₂ _ r₁ r₂ => by
 refine Rep.eInt r₁ fun _ => ?_; refine Rep.eInt r₂ fun _ => ?_; exact ne_int ⟨rfl, .refl _⟩
theorem cmp_lt_int {a b : Int} : CmpIs .Lt (.int a) (.int b) (decide (a < b)) := .mk <| fun prog w X A s E v₁ v₂ _ r₁ r₂ => by
 refine Rep.eInt r₁ fun _ => ?_; refine Rep.eInt r₂ fun _ => ?_; exact lt_int ⟨rfl, .refl _⟩
theorem cmp_le_int {a b : Int} : CmpIs .LtE (.int a) (.int b) (decide (a ≤ b)) := .mk <| fun prog w X A s E v₁ v₂ _ r₁ r₂ => by
 refine Rep.eInt r₁ fun _ => ?_; refine Rep.eInt r₂ fun _ => ?_; exact le_int ⟨rfl, .refl _⟩
theorem cmp_ge_int {a b : Int} : CmpIs .GtE (.int a) (.int b) (decide (a ≥ b)) := .mk <| fun prog w X A s E v₁ v₂ _ r₁ r₂ => by
 refine Rep.eInt r₁ fun _ => ?_; refine Rep.eInt r₂ fun _ => ?_; exact ge_int ⟨rfl, .refl _⟩
theorem cmp_eq_str {a b : List Nat} : CmpIs .Eq (.str a) (.str b) (a == b) := .mk <| fun prog w X A s E v₁ v₂ _ r₁ r₂ => by
 refine Rep.eStr r₁ fun _ => ?_; refine Rep.eStr r₂ fun _ => ?_; exact P.eq_str ⟨rfl, .refl _⟩
theorem cmp_ne_str {a b : List Nat} : CmpIs .NotEq (.str a) (.str b) (a != b) := .mk <| fun prog w X A s E v₁ v₂ _ r₁ r₂ => by
 refine Rep.eStr r₁ fun _ => ?_; refine Rep.eStr r₂ fun _ => ?_; exact P.ne_str ⟨rfl, .refl _⟩
theorem tst_not {e : Expr} {pos : Pos} {b : Bool} (h : Tst G n env ρ ow e b) : Tst G n env ρ ow (.UnaryOp .Not e pos) (!b) := .mk <| fun X A s E R F =>
 isTrue_not (wpAny_mono (h.go X A s E R F) (fun c s' q => ⟨by rw [q.1], q.2⟩) fun _ _ x => x)
theorem tst_and_nil {pos : Pos} : Tst G n env ρ ow (.BoolOp .And [] pos) true := .mk <| fun X A s E R F => isTrue_and_nil ⟨rfl, .refl _⟩
theorem tst_or_nil {pos : Pos} : Tst G n env ρ ow (.BoolOp .Or [] pos) false := .mk <| fun X A s E R F => isTrue_or_nil ⟨rfl, .refl _⟩
theorem tst_and {e : Expr} {es : List Expr} {pos : Pos} {b c : Bool} (h : Tst G n env ρ ow e b) (r : b = true → Tst G n env ρ ow (.BoolOp .And es pos) c) : Tst G n env ρ ow (.BoolOp .And (e :: es) pos) (b && c) := .mk <| fun X A s E R F => by
 refine isTrue_and (wpAny_mono (h.go X A s E R F) (fun c' s' q => ?_) fun _ _ x => x)
 obtain ⟨rfl, g⟩ := q
 cases c' with
 | false => exact ⟨rfl, g⟩
 | true => exact wpAny_mono ((r rfl).go X A s' E R (F.keeps g)) (fun c s'' q => ⟨q.1, g.trans q.2⟩) fun _ _ x => x
theorem tst_or {e : Expr} {es : List Expr} {pos : Pos} {b c : Bool} (h : Tst G n env ρ ow e b) (r : b = false → Tst G n env ρ ow (.BoolOp .Or es pos) c) : Tst G n env ρ ow (.BoolOp .Or (e :: es) pos) (b || c) := .mk <| fun X A s E R F => by
 refine isTrue_or (wpAny_mono (h.go X A s E R F) (fun c' s' q => ?_) fun _ _ x => x)
 obtain ⟨rfl, g⟩ := q
 cases c' with
 | true => exact ⟨rfl, g⟩
 | false => exact wpAny_mono ((r rfl).go X A s' E R (F.keeps g)) (fun c s'' q => ⟨q.1, g.trans q.2⟩) fun _ _ x => x
structure TruthIs (d : D) (b : Bool) : Prop where
 go : ∀ (prog : Program) (w : World) (X : List Addr) (A : Around) (s : Shared) (E : Value → Shared → Prop) v, Rep X s.heap v d → wpAny (model prog w) A (truthy v) (IsQ b s) E s
theorem truth_bool {b : Bool} : TruthIs (.bool b) b := .mk <| fun prog w X A s E v r => by refine Rep.eBool r ?_; exact wpAny_truthy_bool ⟨rfl, .refl _⟩
theorem truth_int {i : Int} : TruthIs (.int i) (i != 0) := .mk <| fun prog w X A s E v r => by refine Rep.eInt r fun _ => ?_; exact truthy_int ⟨rfl, .refl _⟩
theorem truth_str {l : List Nat} (h : l.length < 2 ^ 62) : TruthIs (.str l) (!l.isEmpty) := .mk <| fun prog w X A s E v r => by
 refine Rep.eStr r fun _ => ?_
 refine P.truthy_str (by simp [Str.length]; omega) ⟨?_, .toks _ _⟩
 cases l <;> simp [Str.length]; omega
noncomputable def plainTest (e : Expr) : Bool := match e with | .UnaryOp .Not .. | .BoolOp .. | .IfExp .. | .Compare .. => false | _ => true
set_option tactic.hygienic true in
theorem plain_eq {env : Env} {e : Expr} (he : plainTest e = true) : isTrue e env (eval e env) = (do let v ← eval e env; standAt e.pos; holding [v] (truthy v)) := by
 cases e <;> first | rfl | (cases he; done) | skip
 rename_i op _ _; cases op <;> first | rfl | (injection he; done)
theorem tst_plain {e : Expr} {d : D} {b : Bool} (he : plainTest e = true) (h : Ev G n env ρ ow e d) (t : TruthIs d b) : Tst G n env ρ ow e b := .mk <| fun X A s E R F => by
 refine isTrue_plain (wpAny_mono (h.go X A s E R F) (fun v s' q => wpAny_mono (t.go _ _ X A s' E v q.1) (fun c s'' q' => ⟨q'.1, q.2.trans q'.2⟩) fun _ _ x => x) fun _ _ x => x) (plain_eq he)
theorem ev_if {t a b : Expr} {pos : Pos} {c : Bool} {d : D} (h : Tst G n env ρ ow t c) (h₁ : c = true → Ev G n env ρ ow a d) (h₂ : c = false → Ev G n env ρ ow b d) : Ev G n env ρ ow (.IfExp t a b pos) d := .mk <| fun X A s E R F => by
 refine IfExp_ (wpAny_mono (h.go X A s E R F) (fun c' s' q => ?_) fun _ _ x => x)
 obtain ⟨rfl, g⟩ := q
 cases c' with
 | true => exact wpAny_mono ((h₁ rfl).go X A s' E R (F.keeps g)) (fun v s'' q => ⟨q.1, g.trans q.2⟩) fun _ _ x => x
 | false => exact wpAny_mono ((h₂ rfl).go X A s' E R (F.keeps g)) (fun v s'' q => ⟨q.1, g.trans q.2⟩) fun _ _ x => x
theorem ev_list {es : List Expr} {pos : Pos} {ds : List D} (h : EvAll G n env ρ ow es ds) (hl : ds.length ≤ sizeLine) : Ev G n env ρ ow (.List es pos) (.list ds) := .mk <| fun X A s E R F => by
 refine List_ (wpAny_mono (h.go pos X A s E R F) (fun vs s' q => ?_) fun _ _ x => x)
 refine wpAny_newObj_type ⟨.list ⟨_, Heap.get?_push_size _ rfl⟩ (F.live.keeps q.2.heap).new (q.1.keeps fun _ _ e => Heap.get?_push_of_some _ e), q.2.trans (.push _ _ _)⟩ ?_
 show vs.toArray.size ≤ sizeLine
 rw [List.size_toArray, q.1.length]; exact hl
theorem ev_tup {es : List Expr} {k : Nat} {pos : Pos} {ds : List D} (h : EvAll G n env ρ ow es ds) (hl : ds.length ≤ sizeLine) : Ev G n env ρ ow (.Tuple es k pos) (.tup ds) := .mk <| fun X A s E R F => by
 refine Tuple_ (wpAny_mono (h.go pos X A s E R F) (fun vs s' q => ?_) fun _ _ x => x)
 refine wpAny_newObj_type ⟨.tup ⟨_, Heap.get?_push_size _ rfl, rfl, _, rfl⟩ (F.live.keeps q.2.heap).new (q.1.keeps fun _ _ e => Heap.get?_push_of_some _ e), q.2.trans (.push _ _ _)⟩ ?_
 show vs.toArray.size ≤ sizeLine
 rw [List.size_toArray, q.1.length]; exact hl
structure ItemIs (d i r : D) : Prop where
 go : ∀ (prog : Program) (w : World) (X : List Addr) (A : Around) (s : Shared) (E : Value → Shared → Prop) (value slice : Expr) v₁ v₂,
 (subscripted slice false v₁ v₂ = operate [v₁, v₂] (getItem v₁ v₂)) → Live X s.heap → Rep X s.heap v₁ d → Rep X s.heap v₂ i → wpAny (model prog w) A (subscriptTail value slice v₁ v₂) (EvQ X r s) E s
noncomputable def isSlice : Expr → Bool | .Slice .. => true | _ => false
theorem slice_eq {i : Expr} {v₁ v₂ : Value} (h : isSlice i = false) : subscripted i false v₁ v₂ = operate [v₁, v₂] (getItem v₁ v₂) := by
 cases i <;> first | rfl | injection h
theorem ev_item {e i : Expr} {pos : Pos} {d k r : D} (hi : isSlice i = false) (h₁ : Ev G n env ρ ow e d) (h₂ : Ev G n env ρ ow i k) (h : ItemIs d k r) : Ev G n env ρ ow (.Subscript e i pos) r := .mk <| fun X A s E R F => by
 refine Subscript_ (wpAny_mono (h₁.go X A s E R F) (fun v₁ s₁ q₁ => ?_) fun _ _ x => x)
 refine wpAny_mono (h₂.go X A s₁ E R (F.keeps q₁.2)) (fun v₂ s₂ q₂ => ?_) fun _ _ x => x
 refine wpAny_mono (h.go _ _ X A s₂ E e i v₁ v₂ ?_ (F.live.keeps (q₁.2.trans q₂.2).heap) (q₁.1.keeps q₂.2.heap) q₂.1) (fun v s' q => ⟨q.1, (q₁.2.trans q₂.2).trans q.2⟩) fun _ _ x => x
 exact slice_eq hi
theorem item_str {l : List Nat} {i : Int} {c : Nat} {j : Nat} (hj : PySem.seqIndex? i l.length = some j) (hc : l[j]? = some c) (h : -(2 ^ 63) ≤ i ∧ i < 2 ^ 63) : ItemIs (.str l) (.int i) (.str [c]) := .mk <| fun prog w X A s E value slice v₁ v₂ hs _ r₁ r₂ => by
 revert hs; refine Rep.eStr r₁ fun _ => ?_; refine Rep.eInt r₂ fun _ => ?_; intro hs
 refine tail_any (typeIs_str s _ _) PySem.F.slot_str_getitem.lookup (P.getItem_str (c := c) ?_ ?_ ⟨.str [c] _, .toks _ _⟩) hs
 ·simp only [Bool.or_eq_false_iff, decide_eq_false_iff_not]; omega
 ·show (PySem.seqIndex? i l.toArray.size).bind _ = _
  rw [List.size_toArray, hj]; simpa using hc
theorem item_list {ds : List D} {i : Int} {d : D} (h0 : 0 ≤ i) (h : ds[i.toNat]? = some d) (hi : i < 2 ^ 63) : ItemIs (.list ds) (.int i) d := .mk <| fun prog w X A s E value slice v₁ v₂ hs _ r₁ r₂ => by
 revert hs
 refine Rep.eList r₁ fun hl fl ra => ?_
 refine Rep.eInt r₂ fun _ => ?_; intro hs
 refine el12 (ra.get h) fun v hv rv => ?_
 exact tail_any hl.isList.typeIs slot_list_getitem.lookup (wpAny_getItem_list hl.isList h0 hi (by simpa using hv) ⟨rv, .refl _⟩) hs
noncomputable def cut {α : Type} (l : List α) (lo hi : Option Int) : List α := (l.drop (lo.elim 0 (clipAt l.length))).take (hi.elim l.length (clipAt l.length) - lo.elim 0 (clipAt l.length))
noncomputable def partD : Option Int → D
 | none => .none
 | some i => .int i
structure EvP (G : Gd) (n : Nat) (env : Env) (ρ : Loc) (ow : Own) (e : Option Expr) (i : Option Int) : Prop where
 go : ∀ (X : List Addr) (A : Around) (s : Shared) (E : Value → Shared → Prop), Room n A → Fits G env X ρ ow s → wpAny (model G.prog G.w) A (evalPart e env) (EvQ X (partD i) s) E s
theorem evp_none : EvP G n env ρ ow none none := .mk <| fun X A s E R F => wpAny_pure ⟨.none, .refl _⟩
theorem evp_some {e : Expr} {i : Int} (h : Ev G n env ρ ow e (.int i)) : EvP G n env ρ ow (some e) (some i) := ⟨h.go⟩
theorem clip_le (n : Nat) (i : Int) : clipAt n i ≤ n := by
 have := clipAt_cast n i
 split at this <;> omega
theorem indices_cut (lo hi : Option Int) (len : Nat) : Builtin.Str.strSliceIndices lo hi 1 len = (List.range (hi.elim len (clipAt len) - lo.elim 0 (clipAt len))).map (lo.elim 0 (clipAt len) + ·) := by
 have key : ∀ i : Int, max (0 : Int) (min (if i < 0 then i + (len : Int) else i) (len : Int)) = ((clipAt len i : Nat) : Int) := fun i => (clipAt_cast len i).symm
 unfold Builtin.Str.strSliceIndices
 simp only [show ((1 : Int) > 0) = True from by simp, if_true]
 cases lo <;> cases hi <;> simp only [key, Option.elim] <;> exact sliceRange_one _ _
theorem sliced_cut (l : List Nat) (lo hi : Option Int) : (Builtin.Str.strSliceIndices lo hi 1 l.length).filterMap (l.toArray[·]?) = cut l lo hi := by
 rw [indices_cut, pick_run]; simp [cut]
theorem cut_whole (l : List Nat) (lo hi : Option Int) (h : (Builtin.Str.strSliceIndices lo hi 1 l.length).length = l.length) : cut l lo hi = l := by
 rw [indices_cut, List.length_map, List.length_range] at h
 unfold cut
 have h1 : hi.elim l.length (clipAt l.length) ≤ l.length := by cases hi <;> simp [clip_le]
 rw [h]
 by_cases h0 : l.length = 0
 ·rw [List.length_eq_zero_iff] at h0; subst h0; simp
 ·have : lo.elim 0 (clipAt l.length) = 0 := by omega
  rw [this]; simp
theorem partD_inv {X : List Addr} {h : Heap} {v : Value} {i : Option Int} (r : Rep X h v (partD i)) : ∃ p : Option (Int × Tok), v = partValue p ∧ p.map (·.1) = i := by
 cases i with
 | none => refine Rep.eNone r ?_; exact ⟨none, rfl, rfl⟩
 | some i => refine Rep.eInt r fun _ => ?_; exact ⟨some (i, _), rfl, rfl⟩
set_option tactic.hygienic true in
theorem ev_cut_str {e : Expr} {lo hi : Option Expr} {p pos : Pos} {l : List Nat} {i j : Option Int} (h : Ev G n env ρ ow e (.str l)) (h₁ : EvP G n env ρ ow lo i) (h₂ : EvP G n env ρ ow hi j) (hl : l.length ≤ sizeLine) :
  Ev G n env ρ ow (.Subscript e (.Slice lo hi none p) pos) (.str (cut l i j)) := .mk <| fun X A s E R F => by
 refine Subscript_ (wpAny_mono (h.go X A s E R F) (fun v s₁ q => wpAny_Slice ?_) fun _ _ x => x)
 refine wpAny_mono (h₁.go X A s₁ E R (F.keeps q.2)) (fun vl s₂ q₂ => ?_) fun _ _ x => x
 refine wpAny_mono (h₂.go X A s₂ E R (F.keeps (q.2.trans q₂.2))) (fun vu s₃ q₃ => ?_) fun _ _ x => x
 rw [evalPart_none]
 refine wpAny_pure ?_
 obtain ⟨q, g⟩ := q
 refine Rep.eStr q fun t => ?_
 refine el12 (partD_inv q₂.1) fun pl y0 => ?_; subst y0; intro y0; subst y0
 refine el12 (partD_inv q₃.1) fun pu y0 => ?_; subst y0; intro y0; subst y0
 have g3 := (g.trans q₂.2).trans q₃.2
 refine tail_any (ops := [.ref s₃.heap.objs.size, .str ⟨l.toArray⟩ t]) (typeIs_str _ _ _) PySem.F.slot_str_getitem.lookup (wpAny_getItem_str_slice (l := pl) (u := pu) (st := none) ⟨_, Heap.get?_push_size _ rfl, rfl, rfl⟩ rfl ?_) rfl
 unfold sliceMade
 split
 ·rename_i hw
  have hw' : (Builtin.Str.strSliceIndices (pl.map (·.1)) (pu.map (·.1)) 1 l.length).length = l.length := by
   have := (Bool.and_eq_true_iff.mp hw).2
   simpa [slicePicked, Str.length] using this
  rw [cut_whole l _ _ hw']
  exact ⟨.str l t, g3.trans (.push _ _ _)⟩
 ·have e : (⟨((slicePicked ⟨l.toArray⟩ pl pu none).filterMap ((⟨l.toArray⟩ : Str).cps[·]?)).toArray⟩ : Str) = ⟨(cut l (pl.map (·.1)) (pu.map (·.1))).toArray⟩ := by
   have := sliced_cut l (pl.map (·.1)) (pu.map (·.1))
   unfold slicePicked
   simp only [Str.length, List.size_toArray, Option.map_none, Option.getD_none]
   rw [this]
  rw [e]
  refine ⟨?_, .str _ _, g3.trans (.push _ _ _)⟩
  show (cut l _ _).toArray.size ≤ sizeLine
  rw [List.size_toArray]
  refine Nat.le_trans ?_ hl
  unfold cut
  rw [List.length_take, List.length_drop]; omega
theorem RepAll.drop {X : List Addr} {h : Heap} {vs : List Value} {ds : List D} {a : Nat} (r : RepAll X h vs ds) : RepAll X h (vs.drop a) (ds.drop a) := by
 induction ds generalizing vs a with
 | nil => refine RepAll.eNil r ?_; cases a <;> exact .nil
 | cons d ds ih => refine RepAll.eCons r fun x r => ?_; cases a with
  | zero => exact .cons x r
  | succ a => exact ih r
theorem RepAll.take {X : List Addr} {h : Heap} {vs : List Value} {ds : List D} {k : Nat} (r : RepAll X h vs ds) : RepAll X h (vs.take k) (ds.take k) := by
 induction ds generalizing vs k with
 | nil => refine RepAll.eNil r ?_; cases k <;> exact .nil
 | cons d ds ih => refine RepAll.eCons r fun x r => ?_; cases k with
  | zero => exact .nil
  | succ a => exact .cons x (ih r)
theorem RepAll.of_get {X : List Addr} {h : Heap} {vs : List Value} {ds : List D} (r : RepAll X h vs ds) (a k : Nat) : RepAll X h ((vs.drop a).take k) ((ds.drop a).take k) := r.drop.take
theorem RepAll.cut {X : List Addr} {h : Heap} {vs : List Value} {ds : List D} (r : RepAll X h vs ds) (i j : Option Int) : RepAll X h (cut vs i j) (cut ds i j) := by
 unfold Mine.cut
 rw [r.length]
 exact r.of_get _ _
theorem slicePick_cut (vs : List Value) (i j : Option Int) : slicePick vs.toArray i j none = (cut vs i j).toArray := by
 rw [slicePick_plain]; simp [cut]
theorem partD_is {X : List Addr} {h : Heap} {v : Value} {i : Option Int} (r : Rep X h v (partD i)) : IsPart v i := by
 cases i with
 | none => refine Rep.eNone r ?_; exact .none
 | some i => refine Rep.eInt r fun _ => ?_; exact .int _ _
theorem ev_cut_list {e : Expr} {lo hi : Option Expr} {p pos : Pos} {l : List D} {i j : Option Int} (h : Ev G n env ρ ow e (.list l)) (h₁ : EvP G n env ρ ow lo i) (h₂ : EvP G n env ρ ow hi j) (hl : l.length ≤ sizeLine) :
  Ev G n env ρ ow (.Subscript e (.Slice lo hi none p) pos) (.list (cut l i j)) := .mk <| fun X A s E R F => by
 refine Subscript_ (wpAny_mono (h.go X A s E R F) (fun v s₁ q => wpAny_Slice ?_) fun _ _ x => x)
 refine wpAny_mono (h₁.go X A s₁ E R (F.keeps q.2)) (fun vl s₂ q₂ => ?_) fun _ _ x => x
 refine wpAny_mono (h₂.go X A s₂ E R (F.keeps (q.2.trans q₂.2))) (fun vu s₃ q₃ => ?_) fun _ _ x => x
 rw [evalPart_none]
 refine wpAny_pure ?_
 obtain ⟨q, g⟩ := q
 refine Rep.eList q @fun a vs hL hf ra => ?_
 have g3 := (g.trans q₂.2).trans q₃.2
 have k3 := (q₂.2.trans q₃.2).heap
 have hL3 : s₃.heap.IsList a vs.toArray := hL.isList.at fun o e => k3 a o e
 have hL' : (s₃.heap.push { cls := .type "slice", data := .fields #[vl, vu, .none] }).IsList a vs.toArray := hL3.push _
 refine tail_any (ops := [.ref s₃.heap.objs.size, .ref a]) hL'.typeIs slot_list_getitem.lookup
  (wpAny_getItem_list_slice hL' (Heap.IsSliceOf.new ..) (partD_is (q₂.1.keeps q₃.2.heap)) (partD_is q₃.1) .none (by simp) ?_ (by rw [List.size_toArray, ra.length]; exact hl)) rfl
 rw [slicePick_cut]
 have gg : Grow s₃ { s₃ with heap := s₃.heap.push { cls := .type "slice", data := .fields #[vl, vu, .none] } } := .push _ _ _
 refine ⟨.list ⟨_, Heap.get?_push_size _ rfl⟩ ((F.live.keeps g3.heap).keeps gg.heap).new (((ra.cut i j).keeps k3).keeps fun _ _ e => Heap.get?_push_of_some _ (Heap.get?_push_of_some _ e)), (g3.trans gg).trans ?_⟩
 exact ⟨.of, fun _ _ e => Heap.get?_push_of_some _ e⟩
end
end
section
noncomputable def noStar (es : List Expr) : Bool := es.all starless
theorem noStar_head {e : Expr} {es : List Expr} (h : noStar (e :: es) = true) : starless e = true := (Bool.and_eq_true_iff.mp h).1
theorem noStar_tail {e : Expr} {es : List Expr} (h : noStar (e :: es) = true) : noStar es = true := (Bool.and_eq_true_iff.mp h).2
theorem starEach_plain {env : Env} : ∀ {es : List Expr}, noStar es = true → starEach es env = es.map fun e => (false, eval e env)
 | [], _ => rfl
 | e :: es, h => (star1 (noStar_head h)).trans (congrArg ((false, eval e env) :: ·) (starEach_plain (noStar_tail h)))
theorem starEach_cons {env : Env} {e : Expr} {es : List Expr} (h : noStar (e :: es) = true) : starEach (e :: es) env = (false, eval e env) :: starEach es env := star1 (noStar_head h)
theorem backTo_any {env : Env} {pos : Pos} {es : List Expr} (h : noStar es = true) : (backTo pos (starEach es env)).any (·.1) = false := by
 rw [starEach_plain h]
 simp [backTo, List.any_eq_false]
noncomputable def notAttr : Expr → Bool | .Attribute .. => false | _ => true
theorem call_eq {fe : Expr} {es : List Expr} {kws : List Keyword} {pos : Pos} {env : Env} (h : notAttr fe = true) : eval (.Call fe es kws pos) env = (do callWith pos (← eval fe env) [] (backTo pos (starEach es env)) (backToKw pos (keywordEach kws env))) := by
 cases fe <;> first | rfl | injection h
section
variable {G : Gd} {n : Nat} {env : Env} {X : List Addr} {ρ : Loc} {ow : Own}
theorem ev_call0 {fe : Expr} {f : Addr} {pos : Pos} {d : D} (hf : Ev G n env ρ ow fe (.raw (.ref f))) (hk : keepIn G.K (.ref f) = true)
  (h : FnIs G n (.ref f) [] d) (hattr : notAttr fe = true) : Ev G n env ρ ow (.Call fe [] [] pos) d := .mk <| fun X A s E R F => by
 refine Call_ (wpAny_mono (hf.go X A s E R F) (fun v s₁ q => ?_) fun _ _ x => x) (call_eq hattr)
 obtain ⟨q, g⟩ := q
 refine Rep.eRaw q ?_
 have F₁ := F.keeps g
 refine callWith_K0 (G.X.keeps F₁.base) hk ?_
 exact wpAny_mono (h.go X A s₁ E [] R F₁.base F₁.live .nil) (fun v s₃ q₃ => ⟨q₃.1, g.trans q₃.2⟩) fun _ _ x => x
theorem ev_call {fe : Expr} {f : Addr} {e : Expr} {es : List Expr} {pos : Pos} {ds : List D} {d : D} (hf : Ev G n env ρ ow fe (.raw (.ref f))) (hk : keepIn G.K (.ref f) = true) (ha : EvAll G n env ρ ow (e :: es) ds) (hs : noStar (e :: es) = true)
  (h : FnIs G n (.ref f) ds d) (hattr : notAttr fe = true) : Ev G n env ρ ow (.Call fe (e :: es) [] pos) d := .mk <| fun X A s E R F => by
 refine Call_ (wpAny_mono (hf.go X A s E R F) (fun v s₁ q => ?_) fun _ _ x => x) (call_eq hattr)
 obtain ⟨q, g⟩ := q
 refine Rep.eRaw q ?_
 have F₁ := F.keeps g
 refine callWith_K (G.X.keeps F₁.base) hk (wpAny_mono (ha.go pos X A s₁ E R F₁) (fun vs s₂ q₂ => ⟨G.X.keeps (F₁.keeps q₂.2).base, ?_⟩) fun _ _ x => x) (starEach_cons hs) (backTo_any (noStar_tail hs))
 exact wpAny_mono (h.go X A s₂ E vs R (F₁.keeps q₂.2).base (F₁.keeps q₂.2).live q₂.1) (fun v s₃ q₃ => ⟨q₃.1, (g.trans q₂.2).trans q₃.2⟩) fun _ _ x => x
theorem ev_callT {fe : Expr} {T : String} {e : Expr} {es : List Expr} {pos : Pos} {ds : List D} {d : D} (hf : Ev G n env ρ ow fe (.raw (.type T))) (ha : EvAll G n env ρ ow (e :: es) ds) (hs : noStar (e :: es) = true)
  (h : FnIs G n (.type T) ds d) (hattr : notAttr fe = true) : Ev G n env ρ ow (.Call fe (e :: es) [] pos) d := .mk <| fun X A s E R F => by
 refine Call_ (wpAny_mono (hf.go X A s E R F) (fun v s₁ q => ?_) fun _ _ x => x) (call_eq hattr)
 obtain ⟨q, g⟩ := q
 refine Rep.eRaw q ?_
 have F₁ := F.keeps g
 refine callWith_type1 (wpAny_mono (ha.go pos X A s₁ E R F₁) (fun vs s₂ q₂ => ?_) fun _ _ x => x) (starEach_cons hs) (backTo_any (noStar_tail hs))
 exact wpAny_mono (h.go X A s₂ E vs R (F₁.keeps q₂.2).base (F₁.keeps q₂.2).live q₂.1) (fun v s₃ q₃ => ⟨q₃.1, (g.trans q₂.2).trans q₃.2⟩) fun _ _ x => x
theorem ev_callB {fe : Expr} {id : String} {e : Expr} {es : List Expr} {pos : Pos} {ds : List D} {d : D} (hf : Ev G n env ρ ow fe (.raw (.builtin id))) (ha : EvAll G n env ρ ow (e :: es) ds) (hs : noStar (e :: es) = true)
  (h : FnIs G n (.builtin id) ds d) (hattr : notAttr fe = true) : Ev G n env ρ ow (.Call fe (e :: es) [] pos) d := .mk <| fun X A s E R F => by
 refine Call_ (wpAny_mono (hf.go X A s E R F) (fun v s₁ q => ?_) fun _ _ x => x) (call_eq hattr)
 obtain ⟨q, g⟩ := q
 refine Rep.eRaw q ?_
 have F₁ := F.keeps g
 refine callWith_builtin1 (wpAny_mono (ha.go pos X A s₁ E R F₁) (fun vs s₂ q₂ => ?_) fun _ _ x => x) (starEach_cons hs) (backTo_any (noStar_tail hs))
 exact wpAny_mono (h.go X A s₂ E vs R (F₁.keeps q₂.2).base (F₁.keeps q₂.2).live q₂.1) (fun v s₃ q₃ => ⟨q₃.1, (g.trans q₂.2).trans q₃.2⟩) fun _ _ x => x
structure MethIs (d : D) (name : Str) (id : String) : Prop where
 go : ∀ (M : Model) (X : List Addr) (A : Around) (s : Shared) (E : Value → Shared → Prop) (pl : Sem Bool) (Q : Value × List Value → Shared → Prop) v, Rep X s.heap v d → Q (.builtin id, [v]) s → wpAny M A (getMethod v name pl) Q E s
theorem meth_str {l : List Nat} {name : Str} {id : String} (slot : Slot "str" name id) (ht : typeOf (.builtin id) = pure (.type "method_descriptor")) : MethIs (.str l) name id := .mk <| fun M X A s E pl Q v r h => by
 revert h; refine Rep.eStr r fun _ => ?_; intro h; exact getMethod_builtin (typeIs_str s _ _) PySem.F.plainAttrs_str slot ht (fun a e => by injection e) h
theorem meth_bytes {l : List UInt8} {name : Str} {id : String} (hp : PlainAttrs "bytes") (slot : Slot "bytes" name id) (ht : typeOf (.builtin id) = pure (.type "method_descriptor")) : MethIs (.bytes l) name id := .mk <| fun M X A s E pl Q v r h => by
 revert h; refine Rep.eBytes r fun _ => ?_; intro h; exact getMethod_builtin (T := "bytes") rfl hp slot ht (fun a e => by injection e) h
theorem ev_meth {o : Expr} {name : Str} {id : String} {apos pos : Pos} {e : Expr} {es : List Expr} {d₀ d : D} {ds : List D} (ho : Ev G n env ρ ow o d₀) (hm : MethIs d₀ name id) (ha : EvAll G n env ρ ow (e :: es) ds) (hs : noStar (e :: es) = true)
  (h : FnIs G n (.builtin id) (d₀ :: ds) d)
  {pl : Sem Bool}
  (he : eval (.Call (.Attribute o name apos) (e :: es) [] pos) env = (do
    let ov ← eval o env
    standAt apos.atName
    let (f, first) ← holding [ov] (getMethod ov name pl)
    callWith pos f first (backTo pos (starEach (e :: es) env)) [])) : Ev G n env ρ ow (.Call (.Attribute o name apos) (e :: es) [] pos) d := .mk <| fun X A s E R F => by
 refine MethodCall_ (wpAny_mono (ho.go X A s E R F) (fun v s₁ q => ?_) fun _ _ x => x) he
 refine hm.go _ X A s₁ E _ _ v q.1 ?_
 refine callWith_method1 (wpAny_mono (ha.go pos X A s₁ E R (F.keeps q.2)) (fun vs s₂ q₂ => ?_) fun _ _ x => x) (starEach_cons hs) (backTo_any (noStar_tail hs))
 exact wpAny_mono (h.go X A s₂ E (v :: vs) R (F.keeps (q.2.trans q₂.2)).base (F.keeps (q.2.trans q₂.2)).live (.cons (q.1.keeps q₂.2.heap) q₂.1)) (fun v s₃ q₃ => ⟨q₃.1, (q.2.trans q₂.2).trans q₃.2⟩) fun _ _ x => x
end
theorem ns_unique {h : Heap} {a : Addr} {m m' : Str → Option Value} (x : h.Ns a m) (y : h.Ns a m') : m = m' := by
 refine el34 x fun o es ep ho hd _ hm => ?_
 refine el34 y fun o' es' ep' ho' hd' _ hm' => ?_
 rw [ho] at ho'; (injection ho' with y0; subst y0)
 rw [hd] at hd'; (injection hd' with y0 y1; subst y0; subst y1)
 funext z; rw [← hm z, ← hm' z]
theorem ns_look {h : Heap} {a : Addr} {m : Str → Option Value} (x : h.Ns a m) : ∀ o, h.get? a = some o → ¬ look o := fun o e l => by
 refine el33 x fun o' es ep ho hd _ => ?_
 rw [ho] at e; (injection e with y0; subst y0)
 rcases l with ⟨xs, k, q⟩ | ⟨_, vs, q⟩ | ⟨fd, q⟩ | q <;> (rw [hd] at q; injection q)
theorem cell_look {h : Heap} {a : Addr} {v : Option Value} (x : h.IsCell a v) : ∀ o, h.get? a = some o → ¬ look o := fun o e l => by
 refine el12 x fun o' ho hd => ?_
 rw [ho] at e; (injection e with y0; subst y0)
 rcases l with ⟨xs, k, q⟩ | ⟨_, vs, q⟩ | ⟨fd, q⟩ | q <;> (rw [hd] at q; injection q)
theorem ns_ne_cell {h : Heap} {a c : Addr} {m : Str → Option Value} {v : Option Value} (x : h.Ns a m) (y : h.IsCell c v) : a ≠ c := fun q => by
 subst q
 refine el33 x fun o es ep ho hd _ => ?_
 refine el12 y fun o' ho' hd' => ?_
 rw [ho] at ho'; (injection ho' with y0; subst y0); rw [hd] at hd'; injection hd'
structure Turn (env : Env) (ow : Own) (s s' : Shared) : Prop where
 same : Kin s s'
 heap : ∀ b o, ¬ Mut env ow b → s.heap.get? b = some o → s'.heap.get? b = some o
theorem Grow.turn {env : Env} {ow : Own} {s s' : Shared} (x : Grow s s') : Turn env ow s s' := ⟨x.same, fun b o _ e => x.heap b o e⟩
theorem Turn.trans {env : Env} {ow : Own} {s₁ s₂ s₃ : Shared} (x : Turn env ow s₁ s₂) (y : Turn env ow s₂ s₃) : Turn env ow s₁ s₃ := ⟨x.same.trans y.same, fun b o p e => y.heap b o p (x.heap b o p e)⟩
theorem Turn.but {env : Env} {ow : Own} {s : Shared} {h : Heap} {t : Nat} {a : Addr} (k : Heap.SameBut a s.heap h) (ha : Mut env ow a) : Turn env ow s { s with heap := h, toks := t } :=
 ⟨.of, fun b o p e => (k.2 b fun q => p (q ▸ ha)).trans e⟩
theorem Turn.after {env : Env} {ow ow' : Own} {s s₁ s₂ : Shared} (t : Turn env ow s s₁) (t' : Turn env ow' s₁ s₂) (hm : ∀ b, Mut env ow' b → Mut env ow b ∨ s.heap.get? b = none) : Turn env ow s s₂ :=
 ⟨t.same.trans t'.same, fun b ob p e => t'.heap b ob (fun q => (hm b q).elim p fun z => by rw [z] at e; injection e) (t.heap b ob p e)⟩
theorem Turn.more {env : Env} {ow ow' : Own} {s s' : Shared} (x : Turn env ow' s s') (h : ∀ b, Mut env ow' b → Mut env ow b ∨ s.heap.get? b = none) : Turn env ow s s' :=
 ⟨x.same, fun b o p e => x.heap b o (fun q => (h b q).elim p fun z => by rw [z] at e; injection e) e⟩
section
variable {G : Gd} {env : Env} {X : List Addr} {ρ : Loc} {ow : Own} {s : Shared}
theorem Fits.setLocal (F : Fits G env X ρ ow s) {x : Str} {v : Value} {d : D} {m : Str → Option Value} {h' : Heap} {t : Nat} (hk : env.kindOf x = some .local) (hr : Rep X s.heap v d)
  (hn : s.heap.Ns env.locals m) (hn' : h'.Ns env.locals (fun y => if y = x then some v else m y)) (hs : Heap.SameBut env.locals s.heap h') : Fits G env X ((x, d) :: ρ) ow { s with heap := h', toks := t } := by
 have hsame : Same X s.heap h' := .of_but hs (.inr (ns_look hn))
 refine ⟨fun b o e => (hs.2 b fun q => F.apart b o e (.inl q)).trans (F.base b o e), F.fn, F.gl, F.bl, ⟨_, hn'⟩, fun y d' e => ?_, fun p hp => ⟨?_, (F.owns p hp).2⟩, F.nd, fun a ha => ?_, F.apart, F.inj, fun y c e => ?_, F.sep⟩
 ·rw [List.lookup_cons] at e
  cases hb : y == x with
  | true =>
   rw [hb] at e; (injection e with y0; subst y0)
   have : y = x := beq_iff_eq.mp hb
   subst this
   exact .loc _ v hk hn' (by simp) (hr.mono hsame)
  | false =>
   rw [hb] at e
   have hyx : y ≠ x := by simpa using hb
   cases F.vars y d' e with
   | loc m₂ v₂ hk₂ hn₂ hm₂ hr₂ =>
    have := ns_unique hn hn₂; subst this
    exact .loc _ v₂ hk₂ hn' (by simp [hyx, hm₂]) (hr₂.mono hsame)
   | cell c v₂ hk₂ hc₂ hv₂ hr₂ => exact .cell c v₂ hk₂ hc₂ (hv₂.sameBut hs (ns_ne_cell hn hv₂).symm) (hr₂.mono hsame)
 ·exact (F.owns p hp).1.at (fun o e => (hs.2 _ (F.sep p hp).1).trans e) hsame
 ·refine el11 (F.live a ha) fun o e => ?_
  by_cases q : a = env.locals
  ·subst q; refine el32 hn' fun o' _ _ e' _ => ?_; exact ⟨o', e'⟩
  ·exact ⟨o, (hs.2 a q).trans e⟩
 ·refine el11 (F.cel y c e) fun v hv => ?_
  exact ⟨v, hv.sameBut hs (ns_ne_cell hn hv).symm⟩
theorem Fits.setCell (F : Fits G env X ρ ow s) {x : Str} {v : Value} {d : D} {c : Addr} {v₀ : Option Value} {h' : Heap} {t : Nat} (hk : env.kindOf x = some .cell) (hc : env.cells.lookup x = some c) (hr : Rep X s.heap v d)
  (hv : s.heap.IsCell c v₀) (hv' : h'.IsCell c (some v)) (hs : Heap.SameBut c s.heap h') : Fits G env X ((x, d) :: ρ) ow { s with heap := h', toks := t } := by
 have hsame : Same X s.heap h' := .of_but hs (.inr (cell_look hv))
 refine el11 F.ns fun m hn => ?_
 have hn' : h'.Ns env.locals m := hn.sameBut hs (ns_ne_cell hn hv)
 refine ⟨fun b o e => (hs.2 b fun q => F.apart b o e (.inr (.inl ⟨x, q ▸ hc⟩))).trans (F.base b o e), F.fn, F.gl, F.bl, ⟨_, hn'⟩, fun y d' e => ?_, fun p hp => ⟨?_, (F.owns p hp).2⟩, F.nd, fun a ha => ?_, F.apart, F.inj, fun y c₂ e => ?_, F.sep⟩
 ·rw [List.lookup_cons] at e
  cases hb : y == x with
  | true =>
   rw [hb] at e; (injection e with y0; subst y0)
   have : y = x := beq_iff_eq.mp hb
   subst this
   exact .cell c v (.inl hk) hc hv' (hr.mono hsame)
  | false =>
   rw [hb] at e
   have hyx : y ≠ x := by simpa using hb
   cases F.vars y d' e with
   | loc m₂ v₂ hk₂ hn₂ hm₂ hr₂ => exact .loc _ v₂ hk₂ (hn₂.sameBut hs (ns_ne_cell hn₂ hv)) hm₂ (hr₂.mono hsame)
   | cell c₂ v₂ hk₂ hc₂ hv₂ hr₂ => exact .cell c₂ v₂ hk₂ hc₂ (hv₂.sameBut hs fun q => hyx (F.inj y x c (q ▸ hc₂) hc)) (hr₂.mono hsame)
 ·exact (F.owns p hp).1.at (fun o e => (hs.2 _ ((F.sep p hp).2 x c hc)).trans e) hsame
 ·refine el11 (F.live a ha) fun o e => ?_
  by_cases q : a = c
  ·subst q; refine el12 hv' fun o' e' _ => ?_; exact ⟨o', e'⟩
  ·exact ⟨o, (hs.2 a q).trans e⟩
 ·by_cases q : c₂ = c
  ·subst q; exact ⟨_, hv'⟩
  ·refine el11 (F.cel y c₂ e) fun v₃ hv₃ => ?_; exact ⟨v₃, hv₃.sameBut hs q⟩
end
noncomputable def storable (env : Env) (x : Str) : Bool := env.kindOf x == some .local || (env.kindOf x == some .cell && (env.cells.lookup x).isSome)
theorem storable_ok {env : Env} {x : Str} (h : storable env x = true) : env.kindOf x = some .local ∨ (env.kindOf x = some .cell ∧ ∃ c, env.cells.lookup x = some c) := by
 refine Or.elim (Bool.or_eq_true_iff.mp h) (fun h => ?_) (fun h => ?_)
 ·exact .inl (by simpa using h)
 ·refine el02 (Bool.and_eq_true_iff.mp h) fun h1 h2 => ?_
  exact .inr ⟨by simpa using h1, Option.isSome_iff_exists.mp h2⟩
structure Out where
 base : List Addr
 next : Loc → Own → Prop
 brk : Loc → Own → Prop
 cont : Loc → Own → Prop
 ret : D → Loc → Own → Prop
noncomputable def Out.fn (X : List Addr) (d : D) : Out := ⟨X, fun _ _ => False, fun _ _ => False, fun _ _ => False, fun r _ _ => r = d⟩
inductive OutV (G : Gd) (env : Env) (base : List Addr) (P : D → Loc → Own → Prop) (v : Value) (s : Shared) : Prop
 | mk (d : D) (X : List Addr) (ρ : Loc) (ow : Own) : (∀ a ∈ base, a ∈ X) → Rep X s.heap v d → P d ρ ow → Fits G env X ρ ow s → OutV G env base P v s
inductive OutP (G : Gd) (env : Env) (base : List Addr) (P : Loc → Own → Prop) (s : Shared) : Prop
 | mk (X : List Addr) (ρ : Loc) (ow : Own) : (∀ a ∈ base, a ∈ X) → P ρ ow → Fits G env X ρ ow s → OutP G env base P s
noncomputable def OutIs (G : Gd) (env : Env) (o : Out) (f : Flow) (s : Shared) : Prop := match f with
 | .ret v => OutV G env o.base o.ret v s
 | .next => OutP G env o.base o.next s
 | .brk => OutP G env o.base o.brk s
 | .cont => OutP G env o.base o.cont s
structure ExQ (G : Gd) (env : Env) (ow : Own) (o : Out) (s : Shared) (f : Flow) (s' : Shared) : Prop where
 turn : Turn env ow s s'
 out : OutIs G env o f s'
noncomputable def seqP (M : Model) (A : Around) (env : Env) (E : Value → Shared → Prop) : List (List Stmt) → (Flow → Shared → Prop) → Flow → Shared → Prop
 | [], Q => Q
 | b :: bs, Q => fun f s => match f with
  | .next => wpAny M A (execs b env) (seqP M A env E bs Q) E s
  | f => Q f s
theorem seqP_mono {M : Model} {A : Around} {env : Env} {E : Value → Shared → Prop} : ∀ {bs : List (List Stmt)} {Q Q' : Flow → Shared → Prop}, (∀ f s, Q f s → Q' f s) → ∀ f s, seqP M A env E bs Q f s → seqP M A env E bs Q' f s
 | [], _, _, h, f, s, x => h f s x
 | b :: bs, _, _, h, f, s, x => by
  cases f with
  | next => exact wpAny_mono x (seqP_mono h) fun _ _ e => e
  | _ => exact h _ s x
theorem seqP_other {M : Model} {A : Around} {env : Env} {E : Value → Shared → Prop} : ∀ {bs : List (List Stmt)} {Q : Flow → Shared → Prop} {f : Flow} {s : Shared}, f ≠ .next → Q f s → seqP M A env E bs Q f s
 | [], _, _, _, _, x => x
 | b :: bs, _, f, s, h, x => by
  cases f with
  | next => exact absurd rfl h
  | _ => exact x
structure Ex (G : Gd) (n : Nat) (env : Env) (ρ : Loc) (ow : Own) (bs : List (List Stmt)) (o : Out) : Prop where
 go : ∀ (X : List Addr) (A : Around) (s : Shared) (E : Value → Shared → Prop), Room n A → (∀ a ∈ o.base, a ∈ X) → Fits G env X ρ ow s →
  seqP (model G.prog G.w) A env E bs (ExQ G env ow o s) .next s
section
variable {G : Gd} {n : Nat} {env : Env} {ρ : Loc} {ow : Own} {bs : List (List Stmt)} {o : Out}
theorem Ex.from {ρ' : Loc} {ow' : Own} {X : List Addr} {A : Around} {s s' : Shared} {E : Value → Shared → Prop} (x : Ex G n env ρ' ow' bs o) (R : Room n A) (B : ∀ a ∈ o.base, a ∈ X) (F : Fits G env X ρ' ow' s') (t : Turn env ow s s') (hm : ∀ b, Mut env ow' b → Mut env ow b ∨ s.heap.get? b = none) :
  seqP (model G.prog G.w) A env E bs (ExQ G env ow o s) .next s' :=
 seqP_mono (fun f s₂ q => ⟨t.after q.1 hm, q.2⟩) _ _ (x.go X A s' E R B F)
theorem Ex.from' {ρ' : Loc} {X : List Addr} {A : Around} {s s' : Shared} {E : Value → Shared → Prop} (x : Ex G n env ρ' ow bs o) (R : Room n A) (B : ∀ a ∈ o.base, a ∈ X) (F : Fits G env X ρ' ow s') (t : Turn env ow s s') :
  seqP (model G.prog G.w) A env E bs (ExQ G env ow o s) .next s' := x.from R B F t fun _ => .inl
theorem ex_end (h : o.next ρ ow) : Ex G n env ρ ow [] o := .mk <| fun X A s E R B F => ⟨(Grow.refl s).turn, X, ρ, ow, B, h, F⟩
theorem ex_nil (h : Ex G n env ρ ow bs o) : Ex G n env ρ ow ([] :: bs) o := .mk <| fun X A s E R B F => wpAny_execs_nil (h.go X A s E R B F)
theorem store_any {prog : Program} {w : World} {A : Around} {E : Value → Shared → Prop} {X : List Addr} {s : Shared} {x : Str} {v : Value} {d : D} {Q : Unit → Shared → Prop} (hk : storable env x = true) (F : Fits G env X ρ ow s) (r : Rep X s.heap v d)
  (h : ∀ h' tk, Fits G env X ((x, d) :: ρ) ow { s with heap := h', toks := tk } → Turn env ow s { s with heap := h', toks := tk } → (∀ b o, b ≠ env.locals → (env.kindOf x = some .cell → ∀ c, env.cells.lookup x = some c → b ≠ c) → s.heap.get? b = some o → h'.get? b = some o) → Q () { s with heap := h', toks := tk }) :
  wpAny (model prog w) A (storeName env x v) Q E s := by
 rcases storable_ok hk with hl | ⟨hc, c, hcl⟩
 ·refine el11 F.ns fun m hn => ?_
  refine wpAny_storeName_local hl hn (fun h' hn' hs' => ?_) (by rw [F.fn]; rfl)
  exact h _ _ (F.setLocal hl r hn hn' hs') (.but hs' (.inl rfl)) fun b o hb _ e => (hs'.2 b hb).trans e
 ·refine el11 (F.cel x c hcl) fun v₀ hv => ?_
  refine wpAny_storeName_cell F.fn hc hcl hv fun h' hv' hs' => ?_
  exact h _ s.toks (F.setCell (t := s.toks) hc hcl r hv hv' hs') (.but (t := s.toks) hs' (.inr (.inl ⟨x, hcl⟩))) fun b o _ hb e => (hs'.2 b (hb hc c hcl)).trans e
theorem ex_assign {x : Str} {px pos : Pos} {e : Expr} {rest : List Stmt} {d : D} (hk : storable env x = true) (hs : swapsWith e (some (.Name x px)) pos.line env = pure false) (he : Ev G n env ρ ow e d)
  (h : Ex G n env ((x, d) :: ρ) ow (rest :: bs) o) : Ex G n env ρ ow ((.Assign [.Name x px] e pos :: rest) :: bs) o := .mk <| fun X A s E R B F => by
 refine wpAny_execs_cons (wpAny_Assign_Name (wpAny_mono (he.go X A s E R F) (fun v s₁ q => ?_) fun _ _ y => y) hs)
 exact store_any hk (F.keeps q.2) q.1 fun h' tk F' t' _ => h.from' R B F' (q.2.turn.trans t')
theorem ex_ret {e : Expr} {pos : Pos} {rest : List Stmt} {d : D} (he : Ev G n env ρ ow e d) (h : o.ret d ρ ow) : Ex G n env ρ ow ((.Return (some e) pos :: rest) :: bs) o := .mk <| fun X A s E R B F =>
 wpAny_execs_cons (wpAny_Return_some (wpAny_mono (he.go X A s E R F) (fun v s₁ q => seqP_other (by simp) ⟨q.2.turn, d, X, ρ, ow, B, q.1, h, F.keeps q.2⟩) fun _ _ y => y))
theorem ex_brk {pos : Pos} {rest : List Stmt} (h : o.brk ρ ow) : Ex G n env ρ ow ((.Break pos :: rest) :: bs) o := .mk <| fun X A s E R B F =>
 wpAny_execs_cons (wpAny_Break (seqP_other (by simp) ⟨(Grow.refl s).turn, X, ρ, ow, B, h, F⟩))
theorem ex_cont {pos : Pos} {rest : List Stmt} (h : o.cont ρ ow) : Ex G n env ρ ow ((.Continue pos :: rest) :: bs) o := .mk <| fun X A s E R B F =>
 wpAny_execs_cons (wpAny_Continue (seqP_other (by simp) ⟨(Grow.refl s).turn, X, ρ, ow, B, h, F⟩))
theorem seq_fork {M : Model} {A : Around} {E : Value → Shared → Prop} {b rest : List Stmt} {Q : Flow → Shared → Prop} {s : Shared} (h : seqP M A env E (b :: rest :: bs) Q .next s) :
  wpAny M A (execs b env) (fun f s' => match f with | .next => wpAny M A (execs rest env) (seqP M A env E bs Q) E s' | f => seqP M A env E bs Q f s') E s :=
 wpAny_mono (h := h) (fun f s₂ q => by cases f <;> first | exact q | exact seqP_other (by simp) q) fun _ _ y => y
theorem ex_if {t : Expr} {a b rest : List Stmt} {pos : Pos} {c : Bool} (ht : Tst G n env ρ ow t c) (h₁ : c = true → Ex G n env ρ ow (a :: rest :: bs) o) (h₂ : c = false → Ex G n env ρ ow (b :: rest :: bs) o) :
  Ex G n env ρ ow ((.If t a b pos :: rest) :: bs) o := .mk <| fun X A s E R B F => by
 refine wpAny_execs_cons (wpAny_If (wpAny_mono (ht.go X A s E R F) (fun c' s₁ q => ?_) fun _ _ y => y))
 obtain ⟨rfl, g⟩ := q
 cases c' with
 | true => exact seq_fork ((h₁ rfl).from' R B (F.keeps g) g.turn)
 | false => exact seq_fork ((h₂ rfl).from' R B (F.keeps g) g.turn)
end
theorem bindL_get {kindOf : Str → Option NameKind} : ∀ {binds : List (Str × Value)} {m : Str → Option Value} {x : Str} {v : Value}, (binds.map (·.1)).Nodup → kindOf x = some .local → (binds.lookup x = some v ∨ (binds.lookup x = none ∧ m x = some v)) → bindL kindOf binds m x = some v
 | [], m, x, v, _, _, h => by rcases h with h | ⟨_, h⟩ <;> first | (cases h; done) | exact h
 | (y, w) :: r, m, x, v, hn, hk, h => by
  unfold bindL
  simp only [List.map_cons, List.nodup_cons] at hn
  by_cases hy : x = y
  ·subst hy
   rw [if_pos hk]
   refine bindL_get hn.2 hk (.inr ⟨?_, ?_⟩)
   ·cases e : r.lookup x with
    | none => rfl
    | some w' => exact absurd (List.mem_map.mpr ⟨_, mem_of_lookup e, rfl⟩) hn.1
   ·rcases h with h | ⟨h, _⟩ <;> simp only [List.lookup_cons, beq_self_eq_true] at h
    ·simp [Option.some.inj h]
    ·injection h
  ·have hb : (x == y) = false := by simpa using hy
   refine bindL_get hn.2 hk ?_
   rcases h with h | ⟨h, hm⟩ <;> simp only [List.lookup_cons, hb] at h
   ·exact .inl h
   ·refine .inr ⟨h, ?_⟩
    split <;> simp [hy, hm]
theorem bindC_get {kindOf : Str → Option NameKind} : ∀ {binds : List (Str × Value)} {m : Str → Option Value} {x : Str} {v : Value}, (binds.map (·.1)).Nodup → kindOf x ≠ some .local → (binds.lookup x = some v ∨ (binds.lookup x = none ∧ m x = some v)) → bindC kindOf binds m x = some v
 | [], m, x, v, _, _, h => by rcases h with h | ⟨_, h⟩ <;> first | (cases h; done) | exact h
 | (y, w) :: r, m, x, v, hn, hk, h => by
  unfold bindC
  simp only [List.map_cons, List.nodup_cons] at hn
  by_cases hy : x = y
  ·subst hy
   rw [if_neg hk]
   refine bindC_get hn.2 hk (.inr ⟨?_, ?_⟩)
   ·cases e : r.lookup x with
    | none => rfl
    | some w' => exact absurd (List.mem_map.mpr ⟨_, mem_of_lookup e, rfl⟩) hn.1
   ·rcases h with h | ⟨h, _⟩ <;> simp only [List.lookup_cons, beq_self_eq_true] at h
    ·simp [Option.some.inj h]
    ·injection h
  ·have hb : (x == y) = false := by simpa using hy
   refine bindC_get hn.2 hk ?_
   rcases h with h | ⟨h, hm⟩ <;> simp only [List.lookup_cons, hb] at h
   ·exact .inl h
   ·refine .inr ⟨h, ?_⟩
    split <;> simp [hy, hm]
theorem zip_lookup {X : List Addr} {h : Heap} : ∀ {ns : List Str} {vs : List Value} {ds : List D} {x : Str} {d : D}, RepAll X h vs ds → (ns.zip ds).lookup x = some d → ∃ v, (ns.zip vs).lookup x = some v ∧ Rep X h v d
 | [], _, _, _, _, _, e => by simp at e
 | _ :: _, _, _, _, _, .nil, e => by simp at e
 | y :: ns, _, _, x, d, .cons hv r, e => by
  simp only [List.zip_cons_cons, List.lookup_cons] at e ⊢
  cases hb : x == y with
  | true => rw [hb] at e; (injection e with y0; subst y0); exact ⟨_, rfl, hv⟩
  | false => rw [hb] at e; exact zip_lookup r e
theorem cells_mem_lookup {cs : List (Str × Addr)} (hp : cs.Pairwise fun x y => x.2 ≠ y.2) : ∀ n n' c, cs.lookup n = some c → cs.lookup n' = some c → n = n' := fun n n' c h h' => name_of_addr hp (mem_of_lookup h) (mem_of_lookup h')
theorem fn_of {G : Gd} {n : Nat} {f : Addr} {oc : Value} {od : Option Addr} {osl : Array (Option Value)} {fd : FuncData} {body : List Stmt} {ns : List Str} {ds : List D} {d : D}
  (ho : G.K.lookup f = some ⟨oc, od, .func fd, osl⟩) (hcd : codeIn G.K fd.code fd.qualname = true) (hbody : fd.body = .stmts body)
  (hbind : ∀ vs : List Value, vs.length = ds.length → bindArgs fd ⟨vs, []⟩ = pure (ns.zip vs)) (hclo : fd.closure = []) (hnd : ns.Nodup) (hlen : ns.length = ds.length)
  (hkind : (ns.all fun x => fd.scope.names.lookup x == some .local || fd.scope.names.lookup x == some .cell) = true)
  (hgl : fd.globals = mainGlobals) (hbl : fd.builtins = builtinsNs)
  (hco : fd.scope.isCoroutine = false) (hgen : fd.scope.isGenerator = false) (hk : fd.scope.kind = .function)
  (h : ∀ X L, Ex G n (callEnvC fd L f) (ns.zip ds) [] [body] (.fn X d)) : FnIs G (n + 1) (.ref f) ds d := .mk <| fun X A s E vs R hb hX ra => by
 have K₁ : G.K.In s.heap := G.X.keeps hb
 have hvl : vs.length = ds.length := ra.length
 have hkd : ∀ x ∈ ns.zip vs, fd.scope.names.lookup x.1 = some .local ∨ (fd.scope.names.lookup x.1 = some .cell ∧ ((cellsFrom (s.heap.objs.size + 1) fd.scope.names []).lookup x.1).isSome = true) := fun x hx => by
  have hx1 : x.1 ∈ ns := (List.of_mem_zip (a := x.1) (b := x.2) hx).1
  have := List.all_eq_true.mp hkind x.1 hx1
  refine Or.elim (Bool.or_eq_true_iff.mp this) (fun q => ?_) (fun q => ?_)
  ·exact .inl (by simpa using q)
  ·have q' : fd.scope.names.lookup x.1 = some .cell := by simpa using q
   exact .inr ⟨q', cellsFrom_some _ _ _ (.inl q')⟩
 refine wpAny_call (codeAny_call_cells R.depth (K₁ _ _ ho) rfl (G.T.nolimit.keeps hb) (codeRec_of K₁ hcd) hbody (hbind vs hvl) hclo hkd (fun s₁ C => ?_) hco hgen hk)
 have hg : Grow s s₁ := by refine el22 C.done fun h' tk y0 => ?_; subst y0; intro k; exact .of k
 have hLs : ∀ b o, s.heap.get? b = some o → ¬ Mut (callEnvC fd s.heap.objs.size f) [] b := fun b o e q => by
  have hlt := Heap.lt_size e
  rcases q with q | ⟨y, q⟩ | q
  ·exact Nat.lt_irrefl _ (q ▸ hlt)
  ·exact absurd (C.above y b (mem_of_lookup q)) (Nat.not_lt.mpr (Nat.le_of_lt hlt))
  ·cases q
 have F : Fits G (callEnvC fd s.heap.objs.size f) X (ns.zip ds) [] s₁ := by
  refine ⟨fun b o e => hg.heap b o (hb b o e), hk, hgl, hbl, ⟨_, C.toInCall.ns⟩, fun x d' e => ?_, fun p hp => (nomatch hp), .nil, hX.keeps hg.heap, fun b o e => hLs b o (hb b o e), cells_mem_lookup C.apart, fun y c e => ⟨_, C.cell y c e⟩, fun p hp => (nomatch hp)⟩
  refine el12 (zip_lookup ra e) fun v hv hr => ?_
  have hnd' : ((ns.zip vs).map (·.1)).Nodup := by rw [List.map_fst_zip (by omega)]; exact hnd
  rcases hkd (x, v) (mem_of_lookup hv) with q | ⟨q, q2⟩
  ·exact .loc _ v q C.toInCall.ns (bindL_get hnd' q (.inl hv)) (hr.keeps hg.heap)
  ·refine el11 (Option.isSome_iff_exists.mp q2) fun c hc => ?_
   have := C.cell x c hc
   rw [bindC_get hnd' (by show fd.scope.names.lookup x ≠ _; rw [q]; decide) (.inl hv)] at this
   exact .cell c v (.inl q) hc this (hr.keeps hg.heap)
 refine wpAny_mono ((h X s.heap.objs.size).go X _ s₁ _ R.deeper (fun _ q => q) F) (fun fl s' q => ?_) fun _ _ y => y
 obtain ⟨t, q⟩ := q
 cases fl with
 | ret v =>
  obtain ⟨d', _, _, _, hB', r, e, _⟩ := q
  subst e
  refine ⟨r.sub hB', ?_⟩
  exact ⟨hg.same.trans t.same, fun b o e => t.heap b o (hLs b o e) (by have := C.toInCall.keep b o e; exact this)⟩
 | _ => obtain ⟨_, _, _, _, e, _⟩ := q; exact e.elim
end
section
structure Run (prog : Program) (w : World) (A : Around) (target : Expr) (it : Value) (fp wr : List Addr) (ds : List D) (St : List Addr → Nat → Heap → Prop) : Prop where
 sub : ∀ b ∈ wr, b ∈ fp
 frame : ∀ X i h h', St X i h → (∀ b ∈ fp, ∀ o, h.get? b = some o → h'.get? b = some o) → Same X h h' → St X i h'
 lift : ∀ X i h a, St X i h → h.get? a = none → St (a :: X) i h
 item : ∀ (X : List Addr) (i : Nat) (d : D) (s : Shared) (Q : Value → Shared → Prop) (E : Value → Shared → Prop), (∀ b ∈ wr, b ∈ X) → ds[i]? = some d → St X i s.heap → Live X s.heap →
  (∀ v h' tk, Rep X h' v d → St X (i + 1) h' → (∀ b o, b ∉ wr → s.heap.get? b = some o → h'.get? b = some o) → (∀ b ∈ wr, ∃ o, h'.get? b = some o) → Q v { s with heap := h', toks := tk }) →
  wpAny (model prog w) A (pyNext it) (fun r s₁ => ∃ v, r = some v ∧ wpAny (model prog w) A (letOwnedTupleGo target it v) (fun _ s₂ => Q v s₂) E s₁) E s
 done : ∀ (X : List Addr) (s : Shared) (Q : Option Value → Shared → Prop) (E : Value → Shared → Prop), St X ds.length s.heap →
  (∀ h' tk, (∀ b o, b ∉ wr → s.heap.get? b = some o → h'.get? b = some o) → Q none { s with heap := h', toks := tk }) → wpAny (model prog w) A (pyNext it) Q E s
 self : ∀ (X : List Addr) i (s : Shared) (Q : Value → Shared → Prop) (E : Value → Shared → Prop), St X i s.heap → Q it s → wpAny (model prog w) A (pyIter it) Q E s
structure IterIs (target : Expr) (d : D) (ds : List D) : Prop where
 go : ∀ (prog : Program) (w : World) (X : List Addr) (A : Around) (s : Shared) (Q : Value → Shared → Prop) (E : Value → Shared → Prop) (v : Value), A.handled = none → Live X s.heap → Rep X s.heap v d →
  (∀ it fp wr St h' tk, (∀ A' : Around, A'.handled = none → Run prog w A' target it fp wr ds St) → St (wr ++ X) 0 h' → (∀ b o, s.heap.get? b = some o → h'.get? b = some o) →
   (∀ b ∈ wr, s.heap.get? b = none ∧ ∃ o, h'.get? b = some o) → (∀ b ∈ fp, b ∈ wr ∨ (b ∉ X ∧ ∃ o, s.heap.get? b = some o ∧ look o)) → Q it { s with heap := h', toks := tk }) →
  wpAny (model prog w) A (pyIter v) Q E s
noncomputable def ownedTypes : List String := ["enumerate", "zip", "dict_itemiterator", "dict_reverseitemiterator", "odict_iterator", "itertools.zip_longest", "itertools.pairwise"]
theorem letGo_plain {M : Model} {A : Around} {E : Value → Shared → Prop} {s : Shared} {target : Expr} {I : Addr} {v : Value} {o : Obj} {n : String} {Q : Unit → Shared → Prop} (ho : s.heap.get? I = some o) (hc : o.cls = .type n) (hn : ownedTypes.contains n = false) (h : Q () s) :
  wpAny M A (letOwnedTupleGo target (.ref I) v) Q E s := by
 have fin : ∀ a, wpAny M A (do
   let o ← load I
   match o.cls, o.data with
   | .type n, .fields vs =>
    if ["enumerate", "zip", "dict_itemiterator", "dict_reverseitemiterator", "odict_iterator", "itertools.zip_longest", "itertools.pairwise"].contains n && vs[0]? == some (rawInt a) then
     rule "for.unpacks-the-owned-tuple"
     updateField I 0 .none
   | _, _ => pure () : Sem Unit) Q E s := fun a => by
  refine wpAny_bind (wpAny_load ho ?_)
  rw [hc]
  cases hd : o.data with
  | fields vs =>
   have e : (["enumerate", "zip", "dict_itemiterator", "dict_reverseitemiterator", "odict_iterator", "itertools.zip_longest", "itertools.pairwise"].contains n) = false := hn
   simp only [e, Bool.false_and, Bool.false_eq_true, if_false]
   exact wpAny_pure h
  | _ => exact wpAny_pure h
 cases target <;> first
  | exact wpAny_pure h
  | (cases v <;> first | exact wpAny_pure h | exact fin _)
theorem Run.of_walks {prog : Program} {w : World} {A : Around} {target : Expr} {I : Addr} {fp : List Addr} {ds : List D} {P : Nat → Value → Prop} {St : Nat → Heap → Prop} {n : Nat} {T : String} {St' : List Addr → Heap → Prop}
  (W : Walks prog w A I fp [I] n P St) (hn : n = ds.length) (hI : I ∈ fp)
  (hT : ∀ i h, St i h → ∃ o, h.get? I = some o ∧ o.cls = .type T) (hown : ownedTypes.contains T = false)
  (hmono : ∀ X h h', St' X h → (∀ b ∈ fp, ∀ o, h.get? b = some o → h'.get? b = some o) → Same X h h' → St' X h')
  (hlift : ∀ X h a, St' X h → h.get? a = none → St' (a :: X) h)
  (hrep : ∀ X i d v h, ds[i]? = some d → P i v → St' X h → Rep X h v d)
  (hSt' : ∀ X h h', I ∈ X → St' X h → (∀ b o, b ∉ [I] → h.get? b = some o → h'.get? b = some o) → St' X h') :
  Run prog w A target (.ref I) fp [I] ds (fun X i h => St i h ∧ St' X h) where
 sub := fun b hb => by rw [List.mem_singleton.mp hb]; exact hI
 frame := fun X i h h' st hk hs => ⟨W.frame i h h' st.1 hk, hmono X h h' st.2 hk hs⟩
 lift := fun X i h a st ha => ⟨st.1, hlift X h a st.2 ha⟩
 item := fun X i d s Q E hw hd st hL hQ => by
  have hlt : i < n := by rw [hn]; exact (List.getElem?_eq_some_iff.mp hd).1
  refine W.item i s _ _ hlt st.1 fun v h' tk hP st' hk => ⟨v, rfl, ?_⟩
  refine el12 (hT _ _ st') fun o ho hc => ?_
  have s1 := hSt' X _ _ (hw I (List.mem_singleton.mpr rfl)) st.2 hk
  exact letGo_plain ho hc hown (hQ v h' tk (hrep X i d v h' hd hP s1) ⟨st', s1⟩ hk fun b hb => by rw [List.mem_singleton.mp hb]; exact ⟨o, ho⟩)
 done := fun X s Q E st hQ => by
  have e : St n s.heap := hn ▸ st.1
  exact W.done s _ _ e hQ
 self := fun X i s Q E st h => W.self i s Q E st.1 h
theorem same_of_but {X : List Addr} {h h' : Heap} {I : Addr} (k : ∀ b o, b ∉ [I] → h.get? b = some o → h'.get? b = some o) (hI : I ∈ X) : Same X h h' := fun b o hb _ e => k b o (fun q => hb (by rw [List.mem_singleton.mp q]; exact hI)) e
theorem iter_list {target : Expr} {ds : List D} : IterIs target (.list ds) ds := .mk fun prog w X A s Q E v hh hX r hQ => by
 refine Rep.eList r @fun ax vs hl hf ra => ?_
 refine el11 (id hl) fun nn hax => ?_
 have hlt : ax < s.heap.objs.size := Heap.lt_size hax
 refine wpAny_pyIter_list hl.isList ?_
 have up : ∀ b o, s.heap.get? b = some o → (s.heap.push { cls := .type "list_iterator", data := .fields #[.ref ax, .int 0 0] }).get? b = some o := fun b o e => Heap.get?_push_of_some _ e
 have hnone : s.heap.get? s.heap.objs.size = none := by
  cases e : s.heap.get? s.heap.objs.size with
  | none => rfl
  | some o => exact absurd (Heap.lt_size e) (Nat.lt_irrefl _)
 refine hQ (.ref s.heap.objs.size) [s.heap.objs.size, ax] [s.heap.objs.size] (fun X i h => (h.IsListIter s.heap.objs.size ax i ∧ h.IsList ax vs.toArray) ∧ (PL h ax vs ∧ RepAll X h vs ds)) _ s.toks (fun A' hA' => ?_)
  ⟨⟨⟨_, Heap.get?_push_size _ rfl, rfl, rfl⟩, hl.isList.push _⟩, hl.at (up _), (ra.new hnone).keeps up⟩ up
  (fun b hb => by rw [List.mem_singleton.mp hb]; exact ⟨hnone, _, Heap.get?_push_size _ rfl⟩)
  (fun b hb => by
   focus (refine Or.elim (List.mem_cons.mp hb) (fun y0 => ?_) (fun hb => ?_); subst y0)
   ·exact .inl (List.mem_singleton.mpr rfl)
   ·rw [List.mem_singleton.mp hb]; exact .inr ⟨hf, _, hax, .inl ⟨_, _, rfl⟩⟩)
 have hne : ax ≠ s.heap.objs.size := Nat.ne_of_lt hlt
 exact Run.of_walks (T := "list_iterator") (Walks.list hA' s.heap.objs.size ax hne vs.toArray) (by rw [List.size_toArray, ra.length]) (List.mem_cons_self ..)
  (fun i h st => let ⟨o, ho, hc, _⟩ := st.1; ⟨o, ho, hc⟩) rfl
  (fun X h h' st hk hs => ⟨st.1.at fun o e => hk ax (by simp) o e, st.2.mono hs⟩) (fun X h a st ha => ⟨st.1, st.2.new ha⟩)
  (fun X i d v h hd hP st => by
   refine el12 (st.2.get hd) fun v' hv' r' => ?_
   have : vs[i]? = some v := by simpa using hP
   rw [this] at hv'; (injection hv' with y0; subst y0); exact r')
  (fun X h h' hI st hk => ⟨st.1.at fun o e => hk ax o (by simpa using hne) e, st.2.mono (same_of_but hk hI)⟩)
theorem iter_tup {target : Expr} {ds : List D} : IterIs target (.tup ds) ds := .mk fun prog w X A s Q E v hh hX r hQ => by
 refine Rep.eTup r @fun ax vs hl hf ra => ?_
 obtain ⟨oo, hax, hcax, nn, hdax⟩ := id hl
 have hlt : ax < s.heap.objs.size := Heap.lt_size hax
 have hT : s.heap.IsTuple ax vs.toArray := ⟨oo, hax, hcax, nn, hdax⟩
 refine wpAny_pyIter_tuple hT ?_
 have up : ∀ b o, s.heap.get? b = some o → (s.heap.push { cls := .type "tuple_iterator", data := .fields #[.ref ax, .int 0 0] }).get? b = some o := fun b o e => Heap.get?_push_of_some _ e
 have hnone : s.heap.get? s.heap.objs.size = none := by
  cases e : s.heap.get? s.heap.objs.size with
  | none => rfl
  | some o => exact absurd (Heap.lt_size e) (Nat.lt_irrefl _)
 refine hQ (.ref s.heap.objs.size) [s.heap.objs.size, ax] [s.heap.objs.size] (fun X i h => (h.IsTupleIter s.heap.objs.size ax i ∧ h.IsTuple ax vs.toArray) ∧ (IsTup h ax vs.toArray ∧ RepAll X h vs ds)) _ s.toks (fun A' hA' => ?_)
  ⟨⟨⟨_, Heap.get?_push_size _ rfl, rfl, rfl⟩, hT.at (up _)⟩, IsTup.keeps hl up, (ra.new hnone).keeps up⟩ up
  (fun b hb => by rw [List.mem_singleton.mp hb]; exact ⟨hnone, _, Heap.get?_push_size _ rfl⟩)
  (fun b hb => by
   focus (refine Or.elim (List.mem_cons.mp hb) (fun y0 => ?_) (fun hb => ?_); subst y0)
   ·exact .inl (List.mem_singleton.mpr rfl)
   ·rw [List.mem_singleton.mp hb]; exact .inr ⟨hf, _, hax, .inl ⟨_, _, hdax⟩⟩)
 have hne : ax ≠ s.heap.objs.size := Nat.ne_of_lt hlt
 exact Run.of_walks (T := "tuple_iterator") (Walks.tuple hA' s.heap.objs.size ax hne vs.toArray) (by rw [List.size_toArray, ra.length]) (List.mem_cons_self ..)
  (fun i h st => let ⟨o, ho, hc, _⟩ := st.1; ⟨o, ho, hc⟩) rfl
  (fun X h h' st hk hs => ⟨let ⟨o, ho, r⟩ := st.1; ⟨o, hk ax (by simp) o ho, r⟩, st.2.mono hs⟩) (fun X h a st ha => ⟨st.1, st.2.new ha⟩)
  (fun X i d v h hd hP st => by
   refine el12 (st.2.get hd) fun v' hv' r' => ?_
   have : vs[i]? = some v := by simpa using hP
   rw [this] at hv'; (injection hv' with y0; subst y0); exact r')
  (fun X h h' hI st hk => ⟨let ⟨o, ho, r⟩ := st.1; ⟨o, hk ax o (by simpa using hne) ho, r⟩, st.2.mono (same_of_but hk hI)⟩)
noncomputable def signs (l : List Nat) : List D := l.map fun c => .str [c]
theorem iter_str {target : Expr} {l : List Nat} : IterIs target (.str l) (signs l) := .mk fun prog w X A s Q E v hh hX r hQ => by
 refine Rep.eStr r fun t => ?_
 have hnone : s.heap.get? s.heap.objs.size = none := by
  cases e : s.heap.get? s.heap.objs.size with
  | none => rfl
  | some o => exact absurd (Heap.lt_size e) (Nat.lt_irrefl _)
 have hrep : ∀ (X : List Addr) (i : Nat) (d : D) (v : Value) (h : Heap), (signs l)[i]? = some d → SignAt ⟨l.toArray⟩ i v → True → Rep X h v d := fun X i d v h hd hP _ => by
  refine el22 hP fun c u hc y0 => ?_; subst y0
  have hc' : l[i]? = some c := by simpa using hc
  simp only [signs, List.getElem?_map, hc', Option.map_some, Option.some.injEq] at hd
  subst hd
  exact .str [c] u
 cases ha : l.toArray.all (· < 128)
 ·refine wpAny_pyIter_wide ha ?_
  refine hQ (.ref s.heap.objs.size) [s.heap.objs.size] [s.heap.objs.size] (fun X i h => h.IsStrIter s.heap.objs.size "str_iterator" ⟨l.toArray⟩ t i ∧ True) _ _ (fun A' hA' => ?_)
   ⟨⟨_, Heap.get?_push_size _ rfl, rfl, rfl⟩, trivial⟩ (fun b o e => Heap.get?_push_of_some _ e) (fun b hb => by rw [List.mem_singleton.mp hb]; exact ⟨hnone, _, Heap.get?_push_size _ rfl⟩) (fun b hb => .inl hb)
  exact Run.of_walks (T := "str_iterator") (Walks.strWide hA' s.heap.objs.size ⟨l.toArray⟩ t) (by simp [signs]) (List.mem_cons_self ..)
   (fun i h st => let ⟨o, ho, hc, _⟩ := st; ⟨o, ho, hc⟩) rfl (fun _ _ _ _ _ _ => trivial) (fun _ _ _ _ _ => trivial) hrep (fun _ _ _ _ _ _ => trivial)
 ·refine wpAny_pyIter_ascii ha ?_
  refine hQ (.ref s.heap.objs.size) [s.heap.objs.size] [s.heap.objs.size] (fun X i h => h.IsStrIter s.heap.objs.size "str_ascii_iterator" ⟨l.toArray⟩ t i ∧ True) _ _ (fun A' hA' => ?_)
   ⟨⟨_, Heap.get?_push_size _ rfl, rfl, rfl⟩, trivial⟩ (fun b o e => Heap.get?_push_of_some _ e) (fun b hb => by rw [List.mem_singleton.mp hb]; exact ⟨hnone, _, Heap.get?_push_size _ rfl⟩) (fun b hb => .inl hb)
  exact Run.of_walks (T := "str_ascii_iterator") (Walks.strAscii hA' s.heap.objs.size ⟨l.toArray⟩ t) (by simp [signs]) (List.mem_cons_self ..)
   (fun i h st => let ⟨o, ho, hc, _⟩ := st; ⟨o, ho, hc⟩) rfl (fun _ _ _ _ _ _ => trivial) (fun _ _ _ _ _ => trivial) hrep (fun _ _ _ _ _ _ => trivial)
noncomputable def zs (a : Int) (n : Nat) : List D := (List.range n).map fun (i : Nat) => .int (a + i)
theorem iter_rng {target : Expr} {a b : Int} (hs : Builtin.Range.small a b 1 = true) : IterIs target (.rng a b) (zs a (b - a).toNat) := .mk fun prog w X A s Q E v hh hX r hQ => by
 refine Rep.eRng r fun hr hf => ?_
 have hnone : s.heap.get? s.heap.objs.size = none := by
  cases e : s.heap.get? s.heap.objs.size with
  | none => rfl
  | some o => exact absurd (Heap.lt_size e) (Nat.lt_irrefl _)
 refine wpAny_pyIter_range hr hs ?_
 rw [rangeSize_nat]
 refine hQ (.ref s.heap.objs.size) [s.heap.objs.size] [s.heap.objs.size] (fun X i h => IsRangeIter h s.heap.objs.size (a + (i : Nat) * 1) (((b - a).toNat : Int) - (i : Nat)) 1 ∧ True) _ _ (fun A' hA' => ?_)
  ⟨?_, trivial⟩ (fun b o e => Heap.get?_push_of_some _ e) (fun b hb => by rw [List.mem_singleton.mp hb]; exact ⟨hnone, _, Heap.get?_push_size _ rfl⟩) (fun b hb => .inl hb)
 ·exact Run.of_walks (T := "range_iterator") (Walks.range hA' s.heap.objs.size a 1 (b - a).toNat) (by simp [zs]) (List.mem_cons_self ..)
   (fun i h st => ⟨_, st, rfl⟩) rfl (fun _ _ _ _ _ _ => trivial) (fun _ _ _ _ _ => trivial) (fun X i d v h hd hP _ => by
    refine el11 hP fun t y0 => ?_; subst y0
    have hi : i < (b - a).toNat := by have := (List.getElem?_eq_some_iff.mp hd).1; simpa [zs] using this
    simp only [zs, List.getElem?_map, List.getElem?_range hi, Option.map_some, Option.some.injEq] at hd
    subst hd
    rw [Int.mul_one]; exact .int _ _) (fun _ _ _ _ _ _ => trivial)
 ·have : (s.heap.push { cls := .type "range_iterator", data := .fields #[rawInt a, rawInt ((b - a).toNat : Int), rawInt 1] }).get? s.heap.objs.size = some { cls := .type "range_iterator", data := .fields #[rawInt a, rawInt ((b - a).toNat : Int), rawInt 1] } := Heap.get?_push_size _ rfl
  simpa using this
noncomputable def byteInts (l : List UInt8) : List D := l.map fun c => .int (c.toNat : Int)
theorem iter_bytes {target : Expr} {l : List UInt8} : IterIs target (.bytes l) (byteInts l) := .mk fun prog w X A s Q E v hh hX r hQ => by
 refine Rep.eBytes r fun t => ?_
 have hnone : s.heap.get? s.heap.objs.size = none := by
  cases e : s.heap.get? s.heap.objs.size with
  | none => rfl
  | some o => exact absurd (Heap.lt_size e) (Nat.lt_irrefl _)
 refine KBw.pyIter_bytes ?_
 refine hQ (.ref s.heap.objs.size) [s.heap.objs.size] [s.heap.objs.size] (fun X i h => KBw.IsBytesIter h s.heap.objs.size l.toArray t i ∧ True) _ _ (fun A' hA' => ?_)
  ⟨⟨_, Heap.get?_push_size _ rfl, rfl, rfl⟩, trivial⟩ (fun b o e => Heap.get?_push_of_some _ e) (fun b hb => by rw [List.mem_singleton.mp hb]; exact ⟨hnone, _, Heap.get?_push_size _ rfl⟩) (fun b hb => .inl hb)
 exact Run.of_walks (T := "bytes_iterator") (KBw.walks hA' s.heap.objs.size l.toArray t) (by simp [byteInts]) (List.mem_cons_self ..)
  (fun i h st => let ⟨o, ho, hc, _⟩ := st; ⟨o, ho, hc⟩) rfl (fun _ _ _ _ _ _ => trivial) (fun _ _ _ _ _ => trivial) (fun X i d v h hd hP _ => by
   refine el22 hP fun c u hc y0 => ?_; subst y0
   have hc' : l[i]? = some c := by simpa using hc
   simp only [byteInts, List.getElem?_map, hc', Option.map_some, Option.some.injEq] at hd
   subst hd; exact .int _ _) (fun _ _ _ _ _ _ => trivial)
structure Src (G : Gd) (n : Nat) (env : Env) (ρ : Loc) (ow : Own) (target : Expr) (e : Expr) (ds : List D) : Prop where
 go : ∀ (X : List Addr) (A : Around) (s : Shared) (Q : Value → Shared → Prop) (E : Value → Shared → Prop), Room n A → Fits G env X ρ ow s →
  (∀ it fp wr St s', (∀ A' : Around, A'.handled = none → Run G.prog G.w A' target it fp wr ds St) → St (wr ++ X) 0 s'.heap → Grow s s' →
   (∀ b ∈ wr, s.heap.get? b = none ∧ ∃ o, s'.heap.get? b = some o) → (∀ b ∈ fp, b ∈ wr ∨ (b ∉ X ∧ ∃ o, s'.heap.get? b = some o ∧ look o)) → Q it s') →
  wpAny (model G.prog G.w) A (eval e env) (fun x s₁ => wpAny (model G.prog G.w) A (pyIter x) Q E s₁) E s
section
variable {G : Gd} {n : Nat} {env : Env} {X : List Addr} {ρ : Loc} {ow : Own}
theorem src_of {target e : Expr} {d : D} {ds : List D} (h : Ev G n env ρ ow e d) (hi : IterIs target d ds) : Src G n env ρ ow target e ds := .mk fun X A s Q E R F hQ => by
 refine wpAny_mono (h.go X A s E R F) (fun v s₁ q => ?_) fun _ _ x => x
 refine hi.go _ _ X A s₁ Q E v R.hd (F.keeps q.2).live q.1 fun it fp wr St h' tk hR h0 hk hw hf => ?_
 have g1 : Grow s₁ { s₁ with heap := h', toks := tk } := .of hk
 refine hQ it fp wr St _ hR h0 (q.2.trans g1) (fun b hb => ⟨?_, (hw b hb).2⟩) (fun b hb => (hf b hb).imp id fun ⟨x, o, e, l⟩ => ⟨x, o, hk b o e, l⟩)
 cases e : s.heap.get? b with
 | none => rfl
 | some o => have := (hw b hb).1; rw [q.2.heap b o e] at this; injection this
structure Asg (G : Gd) (n : Nat) (env : Env) (ow : Own) (T : Addr → Prop) (target : Expr) (d : D) (ρ ρ' : Loc) : Prop where
 go : ∀ (X : List Addr) (A : Around) (s : Shared) (Q : Unit → Shared → Prop) (E : Value → Shared → Prop) (v : Value), Room n A → Fits G env X ρ ow s → Rep X s.heap v d →
  (∀ s', Kin s s' → (∀ b o, ¬ T b → s.heap.get? b = some o → s'.heap.get? b = some o) → Fits G env X ρ' ow s' → Q () s') → wpAny (model G.prog G.w) A (assign target env v) Q E s
theorem asg_name {x : Str} {px : Pos} {d : D} {T : Addr → Prop} (hk : storable env x = true) (hT : T env.locals) (hT' : env.kindOf x = some .cell → ∀ c, env.cells.lookup x = some c → T c) : Asg G n env ow T (.Name x px) d ρ ((x, d) :: ρ) := .mk fun X A s Q E v R F r hQ => by
 rcases storable_ok hk with hl | ⟨hc, c, hcl⟩
 ·refine el11 F.ns fun m hn => ?_
  refine wpAny_assign_Name (wpAny_storeName_local hl hn (fun h' hn' hs' => ?_) (by rw [F.fn]; rfl))
  exact hQ _ .of (fun b o hb e => (hs'.2 b fun q => hb (q ▸ hT)).trans e) (F.setLocal hl r hn hn' hs')
 ·refine el11 (F.cel x c hcl) fun v₀ hv => ?_
  refine wpAny_assign_Name (wpAny_storeName_cell F.fn hc hcl hv fun h' hv' hs' => ?_)
  exact hQ _ .of (fun b o hb e => (hs'.2 b fun q => hb (q ▸ hT' hc c hcl)).trans e) (F.setCell (t := s.toks) hc hcl r hv hv' hs')
end
end
section
noncomputable def OSub (ow' ow : Own) : Prop := ∀ p ∈ ow', p ∈ ow
theorem OSub.nil {ow : Own} : OSub [] ow := fun _ h => nomatch h
theorem OSub.refl (ow : Own) : OSub ow ow := fun _ h => h
theorem Sub.cons' {n : Str} {d d' : D} {ρ' ρ : Loc} (h : ρ.lookup n = some d') (e : d' = d) (r : Sub ρ' ρ) : Sub ((n, d) :: ρ') ρ := .cons (e ▸ h) r
theorem mut_sub {env : Env} {ow' ow : Own} (h : OSub ow' ow) {b : Addr} (x : Mut env ow' b) : Mut env ow b := by
 rcases x with x | x | x
 ·exact .inl x
 ·exact .inr (.inl x)
 ·refine el12 (List.mem_map.mp x) fun p hp y0 => ?_; subst y0
  exact .inr (.inr (List.mem_map.mpr ⟨p, h p hp, rfl⟩))
theorem mut_same {env : Env} {ow' ow : Own} (h : ow'.map (·.1) = ow.map (·.1)) {b : Addr} (x : Mut env ow' b) : Mut env ow b := by
 unfold Mut at x ⊢; rw [h] at x; exact x
section
variable {G : Gd} {env : Env} {X : List Addr} {ρ : Loc} {ow : Own} {s : Shared}
theorem Fits.less (F : Fits G env X ρ ow s) {ρ' : Loc} {ow' : Own} (k : Sub ρ' ρ) (h : OSub ow' ow) (hn : (ow'.map (·.1)).Nodup) : Fits G env X ρ' ow' s :=
 ⟨F.base, F.fn, F.gl, F.bl, F.ns, fun n d e => F.vars n d (k n d e), fun p hp => F.owns p (h p hp), hn, F.live, fun b o e q => F.apart b o e (mut_sub h q), F.inj, F.cel, fun p hp => F.sep p (h p hp)⟩
theorem VarIs.subX {X' : List Addr} {h : Heap} {n : Str} {d : D} (x : VarIs X env h n d) (k : ∀ a ∈ X', a ∈ X) : VarIs X' env h n d := by
 cases x with
 | loc m v a b c r => exact .loc m v a b c (r.sub k)
 | cell c v a b e r => exact .cell c v a b e (r.sub k)
theorem Fits.subX (F : Fits G env X ρ ow s) {X' : List Addr} (k : ∀ a ∈ X', a ∈ X) (h : ∀ p ∈ ow, p.1 ∈ X') : Fits G env X' ρ ow s :=
 ⟨F.base, F.fn, F.gl, F.bl, F.ns, fun n d e => (F.vars n d e).subX k, fun p hp => ⟨(F.owns p hp).1.subX k, h p hp⟩, F.nd, fun a ha => F.live a (k a ha), F.apart, F.inj, F.cel, F.sep⟩
theorem Fits.mut_there (F : Fits G env X ρ ow s) {b : Addr} (hb : Mut env ow b) : ∃ o, s.heap.get? b = some o := by
 rcases hb with q | ⟨n, q⟩ | q
 ·refine el42 F.ns fun m o _ _ h _ => ?_; exact ⟨o, q ▸ h⟩
 ·refine el22 (F.cel n b q) fun v o h _ => ?_; exact ⟨o, h⟩
 ·refine el12 (List.mem_map.mp q) fun p hp y0 => ?_; subst y0; exact own_there (F.owns p hp).1
theorem Fits.new_away (F : Fits G env X ρ ow s) {b : Addr} (hb : s.heap.get? b = none) : ¬ Mut env ow b ∧ G.H₀.get? b = none := by
 refine ⟨fun q => ?_, ?_⟩
 ·refine el11 (F.mut_there q) fun o e => ?_; rw [hb] at e; injection e
 ·cases e : G.H₀.get? b with
  | none => rfl
  | some o => have := F.base b o e; rw [hb] at this; injection this
theorem Fits.look_away (F : Fits G env X ρ ow s) {b : Addr} {o : Obj} (hb : b ∉ X) (e : s.heap.get? b = some o) (l : look o) : ¬ Mut env ow b := fun q => by
 rcases q with q | ⟨n, q⟩ | q
 ·refine el11 F.ns fun m hm => ?_; exact ns_look hm o (q ▸ e) l
 ·refine el11 (F.cel n b q) fun v hv => ?_; exact cell_look hv o e l
 ·refine el12 (List.mem_map.mp q) fun p hp y0 => ?_; subst y0; exact hb (F.owns p hp).2
theorem Turn.sameX {s' : Shared} (t : Turn env ow s s') (F : Fits G env X ρ ow s) : Same X s.heap s'.heap := fun b o hb l e => t.heap b o (F.look_away hb e l) e
theorem Fits.wr (F : Fits G env X ρ ow s) {wr : List Addr} {h' : Heap} {tk : Nat} (hk : ∀ b o, b ∉ wr → s.heap.get? b = some o → h'.get? b = some o) (hX : ∀ b ∈ wr, b ∈ X) {X' : List Addr} (k : ∀ a ∈ X', a ∈ X) (ho : ∀ p ∈ ow, p.1 ∈ X') (hl : ∀ b ∈ wr, b ∈ X' → ∃ o, h'.get? b = some o)
  (aw : ∀ b ∈ wr, ¬ Mut env ow b ∧ G.H₀.get? b = none) : Fits G env X' ρ ow { s with heap := h', toks := tk } := by
 have hsame : Same X s.heap h' := fun b o hb _ e => hk b o (fun q => hb (hX b q)) e
 have km : ∀ b o, Mut env ow b → s.heap.get? b = some o → h'.get? b = some o := fun b o q e => hk b o (fun z => (aw b z).1 q) e
 have kv : ∀ n d, ρ.lookup n = some d → VarIs X' env h' n d := fun n d e => VarIs.subX (X := X) (by
  cases F.vars n d e with
  | loc m v a b c r => exact .loc m v a (b.at' fun o e => km _ o (.inl rfl) e) c (r.mono hsame)
  | cell c v a b e' r => exact .cell c v a b (let ⟨o, ho, hd⟩ := e'; ⟨o, km c o (.inr (.inl ⟨n, b⟩)) ho, hd⟩) (r.mono hsame)) k
 refine ⟨fun b o e => hk b o (fun z => by rw [(aw b z).2] at e; injection e) (F.base b o e), F.fn, F.gl, F.bl, ?_, kv, fun p hp => ⟨OOIs.subX ?_ k, ho p hp⟩, F.nd, fun a ha => ?_, F.apart, F.inj, fun y c e => ?_, F.sep⟩
 ·refine el11 F.ns fun m hm => ?_; exact ⟨m, hm.at' fun o e => km _ o (.inl rfl) e⟩
 ·exact (F.owns p hp).1.at (fun o e => km _ o (.inr (.inr (List.mem_map.mpr ⟨p, hp, rfl⟩))) e) hsame
 ·by_cases q : a ∈ wr
  ·exact hl a q ha
  ·refine el11 (F.live a (k a ha)) fun o e => ?_; exact ⟨o, hk a o q e⟩
 ·refine el22 (F.cel y c e) fun v o ho hd => ?_; exact ⟨v, o, km c o (.inr (.inl ⟨y, e⟩)) ho, hd⟩
theorem Fits.more (F : Fits G env X ρ ow s) {wr : List Addr} {s' : Shared} (g : Grow s s') (hw : ∀ b ∈ wr, s.heap.get? b = none ∧ ∃ o, s'.heap.get? b = some o) : Fits G env (wr ++ X) ρ ow s' := by
 have hrep : ∀ {v : Value} {d : D}, Rep X s.heap v d → Rep (wr ++ X) s'.heap v d := fun r => by
  have : ∀ (l : List Addr), (∀ b ∈ l, s.heap.get? b = none) → Rep (l ++ X) s.heap _ _ := fun l => by
   induction l with
   | nil => intro _; exact r
   | cons a l ih => intro h; exact (ih fun b hb => h b (List.mem_cons_of_mem _ hb)).new (h a (List.mem_cons_self ..))
  exact (this wr fun b hb => (hw b hb).1).keeps g.heap
 have F' := F.keeps g
 refine ⟨F'.base, F'.fn, F'.gl, F'.bl, F'.ns, fun n d e => ?_, fun p hp => ⟨?_, List.mem_append_right _ (F.owns p hp).2⟩, F'.nd, fun a ha => ?_, F'.apart, F'.inj, F'.cel, F'.sep⟩
 ·cases F.vars n d e with
  | loc m v a b c r => exact .loc m v a (b.keeps g.heap) c (hrep r)
  | cell c v a b e' r => exact .cell c v a b (e'.keeps g.heap) (hrep r)
 ·have : ∀ (l : List Addr), (∀ b ∈ l, s.heap.get? b = none) → OOIs (l ++ X) s.heap p.1 p.2 := fun l => by
   induction l with
   | nil => intro _; exact (F.owns p hp).1
   | cons a l ih => intro h; exact (ih fun b hb => h b (List.mem_cons_of_mem _ hb)).new (h a (List.mem_cons_self ..))
  exact (this wr fun b hb => (hw b hb).1).keeps g.heap
 ·refine Or.elim (List.mem_append.mp ha) (fun q => ?_) (fun q => ?_)
  ·exact (hw a q).2
  ·exact F'.live a q
end
section
variable {G : Gd} {n : Nat} {env : Env} {ρ : Loc} {ow : Own} {bs : List (List Stmt)} {o : Out}
theorem ex_sub {ρ' : Loc} (k : Sub ρ' ρ) (h : Ex G n env ρ' ow bs o) : Ex G n env ρ ow bs o := .mk fun X A s E R B F => h.go X A s E R B (F.sub k)
inductive WhI {σ : Type} (G : Gd) (env : Env) (base : List Addr) (ρof : σ → Loc) (owof : σ → Own) (I : σ → Prop) (μ : σ → Nat) (ow : Own) (s : Shared) (k : Nat) (s' : Shared) : Prop
 | mk (b : σ) (X' : List Addr) : I b → μ b = k → (∀ a ∈ base, a ∈ X') → Fits G env X' (ρof b) (owof b) s' → Turn env ow s s' → WhI G env base ρof owof I μ ow s k s'
inductive WhN {σ : Type} (ρof : σ → Loc) (owof : σ → Own) (I : σ → Prop) (μ : σ → Nat) (k : Nat) (r : Loc) (w : Own) : Prop
 | mk (b' : σ) : I b' → μ b' < k → Sub (ρof b') r → OSub (owof b') w → WhN ρof owof I μ k r w
inductive BrkTo (G : Gd) (n : Nat) (env : Env) (ow : Own) (bs : List (List Stmt)) (o : Out) (r : Loc) (w : Own) : Prop
 | mk (ρ' : Loc) (ow' : Own) : Sub ρ' r → OSub ow' w → ow'.map (·.1) = ow.map (·.1) → Ex G n env ρ' ow' bs o → BrkTo G n env ow bs o r w
noncomputable def Out.wh {σ : Type} (G : Gd) (n : Nat) (env : Env) (ow : Own) (bs : List (List Stmt)) (o : Out) (ρof : σ → Loc) (owof : σ → Own) (I : σ → Prop) (μ : σ → Nat) (k : Nat) : Out :=
 ⟨o.base, WhN ρof owof I μ k, BrkTo G n env ow bs o, WhN ρof owof I μ k, o.ret⟩
structure TurnTo (ρ : Loc) (ow : Own) (r : Loc) (w : Own) : Prop where
 sub : Sub ρ r
 own : OSub ow w
noncomputable def Out.turn (Y : List Addr) (ρ : Loc) (ow : Own) (brk : Loc → Own → Prop) (ret : D → Loc → Own → Prop) : Out := ⟨Y, TurnTo ρ ow, brk, TurnTo ρ ow, ret⟩
theorem ex_while {σ : Type} {t : Expr} {body rest : List Stmt} {pos : Pos} (ρof : σ → Loc) (owof : σ → Own) (I : σ → Prop) (μ : σ → Nat) (c : σ → Bool) (b₀ : σ) (h0 : I b₀) (hρ : Sub (ρof b₀) ρ) (how : OSub (owof b₀) ow) (ha : ∀ b, (owof b).map (·.1) = ow.map (·.1))
  (ht : ∀ b, I b → Tst G n env (ρof b) (owof b) t (c b))
  (hb : ∀ b, I b → c b = true → Ex G n env (ρof b) (owof b) [body] (Out.wh G n env ow (rest :: bs) o ρof owof I μ (μ b)))
  (he : ∀ b, I b → c b = false → Ex G n env (ρof b) (owof b) (rest :: bs) o) : Ex G n env ρ ow ((.While t body [] pos :: rest) :: bs) o := .mk <| fun X A s E R B F => by
 have hnd : ∀ b, ((owof b).map (·.1)).Nodup := fun b => by rw [ha b]; exact F.nd
 refine wpAny_execs_cons (wpAny_While (codeAny_whileLoop (WhI G env o.base ρof owof I μ ow s) ?_ (μ b₀) ⟨b₀, X, h0, rfl, B, F.less hρ how (hnd _), (Grow.refl s).turn⟩))
 intro k s₁ y0; obtain ⟨b, X', hI, rfl, B', F', t'⟩ := y0
 refine wpAny_mono ((ht b hI).go X' A s₁ _ R F') (fun c' s₂ q => ?_) fun _ _ y => y
 obtain ⟨rfl, g⟩ := q
 have F₂ := F'.keeps g
 have t₂ := t'.trans (g.turn (env := env) (ow := ow))
 cases hc : c b with
 | true =>
  simp only [if_true]
  refine wpAny_mono ((hb b hI hc).go X' A s₂ _ R B' F₂) (fun f s₃ q => ?_) fun _ _ y => y
  obtain ⟨t₃, q⟩ := q
  have t₃' : Turn env ow s s₃ := t₂.trans (t₃.more fun b' h => .inl (mut_same (ha b) h))
  cases f with
  | next => obtain ⟨X₃, r, w', hX, ⟨b', hI', hμ, hs, hw⟩, F₃⟩ := q; exact ⟨μ b', hμ, b', X₃, hI', rfl, hX, F₃.less hs hw (hnd _), t₃'⟩
  | cont => obtain ⟨X₃, r, w', hX, ⟨b', hI', hμ, hs, hw⟩, F₃⟩ := q; exact ⟨μ b', hμ, b', X₃, hI', rfl, hX, F₃.less hs hw (hnd _), t₃'⟩
  | brk =>
   obtain ⟨X₃, r, w', hX, ⟨ρ', ow', hs, hw, hm, hx⟩, F₃⟩ := q
   exact hx.from R hX (F₃.less hs hw (by rw [hm]; exact F.nd)) t₃' fun b' h => .inl (mut_same hm h)
  | ret v => exact seqP_other (by simp) ⟨t₃', q⟩
 | false =>
  simp only [Bool.false_eq_true, if_false]
  exact wpAny_execs_nil ((he b hI hc).from R B' F₂ t₂ fun b' h => .inl (mut_same (ha b) h))
inductive ForI (G : Gd) (env : Env) (W : List Addr) (ρof : Nat → Loc) (owof : Nat → Own) (St : List Addr → Nat → Heap → Prop) (ow : Own) (s : Shared) (N k : Nat) (s' : Shared) : Prop
 | mk (i : Nat) : i ≤ N → k = N - i → Fits G env W (ρof i) (owof i) s' → St W i s'.heap → Turn env ow s s' → ForI G env W ρof owof St ow s N k s'
theorem ex_for {target e : Expr} {body rest : List Stmt} {pos : Pos} {ds : List D} (hs : Src G n env ρ ow target e ds) (ρof : Nat → Loc) (owof : Nat → Own) (h0 : Sub (ρof 0) ρ) (how : OSub (owof 0) ow) (ha : ∀ i, (owof i).map (·.1) = ow.map (·.1))
  (turn : ∀ i d, ds[i]? = some d → ∃ ρ', Asg G n env (owof i) (Mut env ow) target d (ρof i) ρ' ∧ ∀ Y, Ex G n env ρ' (owof i) [body] (Out.turn Y (ρof (i + 1)) (owof (i + 1)) (BrkTo G n env ow (rest :: bs) o) o.ret))
  (he : Ex G n env (ρof ds.length) (owof ds.length) (rest :: bs) o) (hfold : ∀ x, foldedSetIterable e env x = pure x := by intro _; rfl) : Ex G n env ρ ow ((.For target e body [] pos :: rest) :: bs) o := .mk <| fun X A s E R B F => by
 have hnd : ∀ b, ((owof b).map (·.1)).Nodup := fun b => by rw [ha b]; exact F.nd
 refine wpAny_execs_cons (wpAny_For (hs.go X A s _ E R F fun it fp wr St s₁ hR h0' g hw hf => ?_) hfold)
 have R' := hR A R.hd
 have F₁ : Fits G env (wr ++ X) (ρof 0) (owof 0) s₁ := (F.more g hw).less h0 how (hnd 0)
 have aw : ∀ b ∈ wr, ¬ Mut env ow b ∧ G.H₀.get? b = none := fun b hb => F.new_away (hw b hb).1
 have afp : ∀ b ∈ fp, ¬ Mut env ow b := fun b hb => by
  rcases hf b hb with q | ⟨q, ob, eo, l⟩
  ·exact (aw b q).1
  ·exact (F.keeps g).look_away q eo l
 have hwX : ∀ b ∈ wr, b ∈ wr ++ X := fun b hb => List.mem_append_left _ hb
 have hBw : ∀ a ∈ o.base, a ∈ wr ++ X := fun a h => List.mem_append_right _ (B a h)
 have hown : ∀ i, ∀ p ∈ owof i, p.1 ∈ wr ++ X := fun i p hp => by
  have : p.1 ∈ ow.map (·.1) := by rw [← ha i]; exact List.mem_map.mpr ⟨p, hp, rfl⟩
  refine el12 (List.mem_map.mp this) fun p' hp' e' => ?_
  exact List.mem_append_right _ (by have := (F.owns p' hp').2; rw [e'] at this; exact this)
 have wrL : ∀ {s₀ : Shared}, Live (wr ++ X) s₀.heap → ∀ b ∈ wr, ∃ o, s₀.heap.get? b = some o := fun h b hb => h b (hwX b hb)
 have up : ∀ {s₀ : Shared} {h' : Heap} {tk : Nat}, Turn env ow s s₀ → (∀ b o, b ∉ wr → s₀.heap.get? b = some o → h'.get? b = some o) → Turn env ow s { s₀ with heap := h', toks := tk } := fun {s₀ h' tk} t hk =>
  ⟨t.same.trans .of, fun b o p e => hk b o (fun q => by rw [(hw b q).1] at e; injection e) (t.heap b o p e)⟩
 have stay : ∀ {i : Nat} {ow' : Own} {s₀ s₀' : Shared} (m : ∀ b, Mut env ow' b → Mut env ow b) (F₀ : Fits G env (wr ++ X) (ρof i) (owof i) s₀) (t : Turn env ow s₀ s₀') (i' : Nat), St (wr ++ X) i' s₀.heap → St (wr ++ X) i' s₀'.heap := fun m F₀ t i' st =>
  R'.frame _ _ _ _ st (fun b hb o e => t.heap b o (afp b hb) e) (fun b o hb l e => t.heap b o (fun q => F₀.look_away hb e l (mut_same (ha _).symm q)) e)
 refine codeAny_forLoop_any (ForI G env (wr ++ X) ρof owof St ow s ds.length) ?_ ds.length ⟨0, Nat.zero_le _, rfl, F₁, h0', g.turn⟩
 intro k s₂ y0; obtain ⟨i, hi, rfl, F₂, st, t₂⟩ := y0
 refine Or.elim (Nat.lt_or_ge i ds.length) (fun hlt => ?_) (fun hge => ?_)
 ·refine el11 (⟨ds[i], List.getElem?_eq_getElem hlt⟩ : ∃ d, ds[i]? = some d) fun d hd => ?_
  refine el12 (turn i d hd) fun ρ' hasg hbody => ?_
  generalize hE' : notedBy (model G.prog G.w) A env _ = E'
  refine wpAny_mono (R'.item (wr ++ X) i d s₂ (fun v s₃ => wpAny (model G.prog G.w) A (assign target env v) (fun _ s₂' => wpAny (model G.prog G.w) A (execs body env) (fun f s₃ => match f with
      | .next | .cont => ∃ m, m < ds.length - i ∧ ForI G env (wr ++ X) ρof owof St ow s ds.length m s₃
      | .brk => seqP (model G.prog G.w) A env E (rest :: bs) (ExQ G env ow o s) .next s₃
      | .ret v => ExQ G env ow o s (.ret v) s₃) E' s₂') E' s₃) _ hwX hd st F₂.live fun v h' tk hv st' hk hl => ?_) (fun r s₃ q => ?_) fun _ _ y => y
  ·have F₃ : Fits G env (wr ++ X) (ρof i) (owof i) { s₂ with heap := h', toks := tk } := F₂.wr hk hwX (fun _ q => q) (hown _) (fun b hb _ => hl b hb) fun b hb => ⟨fun q => (aw b hb).1 (mut_same (ha i) q), (aw b hb).2⟩
   have t₃ := up (tk := tk) t₂ hk
   refine hasg.go _ A _ _ _ v R F₃ hv fun s₄ e₄ k₄ F₄ => ?_
   have t₄ : Turn env ow { s₂ with heap := h', toks := tk } s₄ := ⟨e₄, k₄⟩
   have st₄ := stay (fun b q => q) F₃ t₄ _ st'
   refine wpAny_mono ((hbody (wr ++ X)).go _ A s₄ _ R (fun _ q => q) F₄) (fun f s₅ q => ?_) fun _ _ y => y
   obtain ⟨t₅, q⟩ := q
   have t₅' : Turn env ow s₄ s₅ := t₅.more fun b h => .inl (mut_same (ha i) h)
   have st₅ : St (wr ++ X) (i + 1) s₅.heap := R'.frame _ _ _ _ st₄ (fun b hb o e => t₅'.heap b o (afp b hb) e) (t₅.sameX F₄)
   have tt : Turn env ow s s₅ := (t₃.trans t₄).trans t₅'
   cases f with
   | next => obtain ⟨X₃, r, w', hX, ⟨hs, hw'⟩, F₅⟩ := q; exact ⟨ds.length - (i + 1), by omega, i + 1, hlt, rfl, (F₅.less hs hw' (hnd _)).subX hX (hown _), st₅, tt⟩
   | cont => obtain ⟨X₃, r, w', hX, ⟨hs, hw'⟩, F₅⟩ := q; exact ⟨ds.length - (i + 1), by omega, i + 1, hlt, rfl, (F₅.less hs hw' (hnd _)).subX hX (hown _), st₅, tt⟩
   | brk =>
    obtain ⟨X₃, r, w', hX, ⟨ρ', ow', hs, hw', hm, hx⟩, F₅⟩ := q
    exact hx.from R (fun a h => hX a (hBw a h)) (F₅.less hs hw' (by rw [hm]; exact F.nd)) tt fun b' h => .inl (mut_same hm h)
   | ret v => obtain ⟨d', X', ρ', ow', hB', rd, hd', F'⟩ := q; exact ⟨tt, d', X', ρ', ow', fun a ha => hB' a (hBw a ha), rd, hd', F'⟩
  ·refine el12 q fun v y0 => ?_; subst y0; intro q
   refine wpAny_mono q (fun _ s₃ q => wpAny_mono q (fun _ s₄ q => wpAny_mono q (fun f s₅ q => ?_) fun _ _ y => y) fun _ _ y => y) fun _ _ y => y
   cases f with
   | next => exact q
   | cont => exact q
   | brk => exact q
   | ret v => exact seqP_other (by simp) q
 ·have : i = ds.length := Nat.le_antisymm hi hge
  subst this
  refine R'.done _ s₂ _ _ st fun h' tk hk => ?_
  have F₃ : Fits G env X (ρof ds.length) (owof ds.length) { s₂ with heap := h', toks := tk } := F₂.wr hk hwX (fun a q => List.mem_append_right _ q) (fun p hp => by
   have : p.1 ∈ ow.map (·.1) := by rw [← ha ds.length]; exact List.mem_map.mpr ⟨p, hp, rfl⟩
   refine el12 (List.mem_map.mp this) fun p' hp' e' => ?_
   have := (F.owns p' hp').2; rw [e'] at this; exact this) (fun b hb hbX => by
    refine el11 (F.live b hbX) fun o e => ?_; rw [(hw b hb).1] at e; injection e) fun b hb => ⟨fun q => (aw b hb).1 (mut_same (ha _) q), (aw b hb).2⟩
  exact wpAny_execs_nil (he.from R B F₃ (up (tk := tk) t₂ hk) fun b' h => .inl (mut_same (ha _) h))
end
end
section
inductive OSet (a : Addr) (old new : OO) : Own → Own → Prop
 | head (r : Own) : OSet a old new ((a, old) :: r) ((a, new) :: r)
 | tail (p : Addr × OO) {r r' : Own} : OSet a old new r r' → OSet a old new (p :: r) (p :: r')
theorem OSet.mem {a : Addr} {old new : OO} {ow ow' : Own} (x : OSet a old new ow ow') : (a, old) ∈ ow := by
 induction x with
 | head r => exact List.mem_cons_self ..
 | tail p _ ih => exact List.mem_cons_of_mem _ ih
theorem OSet.keys {a : Addr} {old new : OO} {ow ow' : Own} (x : OSet a old new ow ow') : ow'.map (·.1) = ow.map (·.1) := by
 induction x with
 | head r => rfl
 | tail p _ ih => simp [ih]
section
variable {G : Gd} {env : Env} {X : List Addr} {ρ : Loc} {ow : Own} {s : Shared}
theorem Fits.putOwn (F : Fits G env X ρ ow s) {ow' : Own} {h' : Heap} {tk : Nat} (hks : ow'.map (·.1) = ow.map (·.1)) (hk : ∀ b o, b ∉ ow.map (·.1) → s.heap.get? b = some o → h'.get? b = some o) (hn : ∀ p ∈ ow', OOIs X h' p.1 p.2) : Fits G env X ρ ow' { s with heap := h', toks := tk } := by
 have inX : ∀ b, b ∈ ow.map (·.1) → b ∈ X := fun b hb => by refine el12 (List.mem_map.mp hb) fun p hp y0 => ?_; subst y0; exact (F.owns p hp).2
 have back : ∀ p ∈ ow', ∃ q ∈ ow, q.1 = p.1 := fun p hp => by
  have : p.1 ∈ ow.map (·.1) := by rw [← hks]; exact List.mem_map.mpr ⟨p, hp, rfl⟩
  exact List.mem_map.mp this
 have hsame : Same X s.heap h' := fun b o hb _ e => hk b o (fun q => hb (inX b q)) e
 have nl : env.locals ∉ ow.map (·.1) := fun q => by refine el12 (List.mem_map.mp q) fun p hp e => ?_; exact (F.sep p hp).1 e
 have nc : ∀ n c, env.cells.lookup n = some c → c ∉ ow.map (·.1) := fun n c hc q => by refine el12 (List.mem_map.mp q) fun p hp e => ?_; exact (F.sep p hp).2 n c hc e
 refine ⟨fun b o e => hk b o (fun q => F.apart b o e (.inr (.inr q))) (F.base b o e), F.fn, F.gl, F.bl, ?_, fun n d e => ?_, fun p hp => ⟨hn p hp, ?_⟩, by rw [hks]; exact F.nd, fun b hb => ?_, fun b o e q => F.apart b o e (mut_same hks q), F.inj, fun y c e => ?_, fun p hp => ?_⟩
 ·refine el11 F.ns fun m hm' => ?_; exact ⟨m, hm'.at' fun o e => hk _ o nl e⟩
 ·cases F.vars n d e with
  | loc m v a b c r => exact .loc m v a (b.at' fun o e => hk _ o nl e) c (r.mono hsame)
  | cell c v a b e' r => exact .cell c v a b (let ⟨o, ho, hd⟩ := e'; ⟨o, hk c o (nc n c b) ho, hd⟩) (r.mono hsame)
 ·refine el12 (back p hp) fun q hq e => ?_; rw [← e]; exact (F.owns q hq).2
 ·by_cases q : b ∈ ow.map (·.1)
  ·rw [← hks] at q
   refine el12 (List.mem_map.mp q) fun p hp y0 => ?_; subst y0
   exact own_there (hn p hp)
  ·refine el11 (F.live b hb) fun o e => ?_; exact ⟨o, hk b o q e⟩
 ·refine el22 (F.cel y c e) fun v o ho hd => ?_; exact ⟨v, o, hk c o (nc y c e) ho, hd⟩
 ·refine el12 (back p hp) fun q hq e => ?_; rw [← e]; exact F.sep q hq
theorem OSet.rest {a : Addr} {old new : OO} {ow ow' : Own} (x : OSet a old new ow ow') (hnd : (ow.map (·.1)).Nodup) {p : Addr × OO} (h : p ∈ ow') : p = (a, new) ∨ (p ∈ ow ∧ p.1 ≠ a) := by
 induction x with
 | head r =>
  simp only [List.map_cons, List.nodup_cons] at hnd
  refine Or.elim (List.mem_cons.mp h) (fun h => ?_) (fun h => ?_)
  ·exact .inl h
  ·exact .inr ⟨List.mem_cons_of_mem _ h, fun q => hnd.1 (List.mem_map.mpr ⟨p, h, q⟩)⟩
 | tail q y ih =>
  simp only [List.map_cons, List.nodup_cons] at hnd
  refine Or.elim (List.mem_cons.mp h) (fun h => ?_) (fun h => ?_)
  ·subst h; exact .inr ⟨List.mem_cons_self .., fun z => hnd.1 (List.mem_map.mpr ⟨_, y.mem, z.symm⟩)⟩
  ·exact (ih hnd.2 h).imp id fun z => ⟨List.mem_cons_of_mem _ z.1, z.2⟩
theorem Fits.setOwn (F : Fits G env X ρ ow s) {a : Addr} {old new : OO} {ow' : Own} {h' : Heap} {tk : Nat} (x : OSet a old new ow ow') (hs : Heap.SameBut a s.heap h') (hn : OOIs X h' a new) : Fits G env X ρ ow' { s with heap := h', toks := tk } := by
 have haX := (F.owns _ x.mem).2
 have hsame : Same X s.heap h' := .of_but hs (.inl haX)
 refine F.putOwn x.keys (fun b o hb e => (hs.2 b fun q => hb (q ▸ List.mem_map.mpr ⟨_, x.mem, rfl⟩)).trans e) fun p hp => ?_
 rcases x.rest F.nd hp with rfl | ⟨h1, h2⟩
 ·exact hn
 ·exact (F.owns p h1).1.at (fun o e => (hs.2 _ h2).trans e) hsame
theorem Fits.newOwn (F : Fits G env X ρ ow s) {a : Addr} {new : OO} {h' : Heap} {tk : Nat} (ha : s.heap.get? a = none) (hk : ∀ b o, s.heap.get? b = some o → h'.get? b = some o) (hn : OOIs (a :: X) h' a new) : Fits G env (a :: X) ρ ((a, new) :: ow) { s with heap := h', toks := tk } := by
 have g : Grow s { s with heap := h', toks := tk } := .of hk
 have F' := F.more (wr := [a]) g fun b hb => by rw [List.mem_singleton.mp hb]; exact ⟨ha, own_there hn⟩
 have haway := F.new_away ha
 refine ⟨F'.base, F'.fn, F'.gl, F'.bl, F'.ns, F'.vars, fun p hp => ?_, ?_, F'.live, fun b o e q => ?_, F'.inj, F'.cel, fun p hp => ?_⟩
 ·focus (refine Or.elim (List.mem_cons.mp hp) (fun y0 => ?_) (fun hp => ?_); subst y0)
  ·exact ⟨hn, List.mem_cons_self ..⟩
  ·exact F'.owns p hp
 ·simp only [List.map_cons, List.nodup_cons]
  exact ⟨fun q => haway.1 (.inr (.inr q)), F.nd⟩
 ·rcases q with q | q | q
  ·exact F.apart b o e (.inl q)
  ·exact F.apart b o e (.inr (.inl q))
  ·simp only [List.map_cons, List.mem_cons] at q
   refine Or.elim q (fun q => ?_) (fun q => ?_)
   ·rw [q] at e; rw [haway.2] at e; injection e
   ·exact F.apart b o e (.inr (.inr q))
 ·focus (refine Or.elim (List.mem_cons.mp hp) (fun y0 => ?_) (fun hp => ?_); subst y0)
  ·exact ⟨fun q => haway.1 (.inl q), fun n c hc q => haway.1 (.inr (.inl ⟨n, by rw [show a = c from q]; exact hc⟩))⟩
  ·exact F.sep p hp
theorem Fits.freeze (F : Fits G env X ρ ow s) {a : Addr} {ds : List D} {x : Str} {ow' : Own} (hx : ρ.lookup x = some (own a)) (ha : (a, OO.list ds) ∈ ow) (hw : OSub ow' ow) (hn : a ∉ ow'.map (·.1)) (hnd : (ow'.map (·.1)).Nodup) : Fits G env (X.filter (· != a)) ((x, .list ds) :: ρ) ow' s := by
 have k : ∀ b ∈ X.filter (· != a), b ∈ X := fun b hb => (List.mem_filter.mp hb).1
 have F₁ : Fits G env (X.filter (· != a)) ρ ow' s := (F.less (Sub.refl ρ) hw hnd).subX k fun p hp => List.mem_filter.mpr ⟨(F.owns p (hw p hp)).2, by
  simp only [bne_iff_ne, ne_eq]; exact fun q => hn (List.mem_map.mpr ⟨p, hp, q⟩)⟩
 refine ⟨F₁.base, F₁.fn, F₁.gl, F₁.bl, F₁.ns, fun n d e => ?_, F₁.owns, F₁.nd, F₁.live, F₁.apart, F₁.inj, F₁.cel, F₁.sep⟩
 rw [List.lookup_cons] at e
 cases hb : n == x with
 | false => rw [hb] at e; exact F₁.vars n d e
 | true =>
  rw [hb] at e; (injection e with y0; subst y0)
  have : n = x := beq_iff_eq.mp hb
  subst this
  refine el12 ((F.owns _ ha).1) fun vs hl r => ?_
  have hr : Rep (X.filter (· != a)) s.heap (.ref a) (.list ds) := .list hl (fun q => by simp at q) (r.sub k)
  cases F.vars n _ hx with
  | loc m v h1 h2 h3 h4 => revert h3; refine Rep.eRaw h4 ?_; intro h3; exact .loc m _ h1 h2 h3 hr
  | cell c v h1 h2 h3 h4 => revert h3; refine Rep.eRaw h4 ?_; intro h3; exact .cell c _ h1 h2 h3 hr
end
section
variable {G : Gd} {n : Nat} {env : Env} {ρ : Loc} {ow : Own} {bs : List (List Stmt)} {o : Out}
theorem append_own {prog : Program} {w : World} {A : Around} {E : Value → Shared → Prop} {X : List Addr} {s : Shared} {a : Addr} {ds : List D} {d : D} {v : Value} {ow' : Own} {Q : Value → Shared → Prop} (F : Fits G env X ρ ow s) (hx : OSet a (.list ds) (.list (ds ++ [d])) ow ow') (r : Rep X s.heap v d) (hsz : ds.length ≤ sizeLine)
  (h : ∀ h' tk, Fits G env X ρ ow' { s with heap := h', toks := tk } → Turn env ow s { s with heap := h', toks := tk } → (∀ b o, b ≠ a → s.heap.get? b = some o → h'.get? b = some o) → Q .none { s with heap := h', toks := tk }) : wpAny (model prog w) A (call (.builtin "list.append") [.ref a, v]) Q E s := by
 refine el12 ((F.owns _ hx.mem).1) fun vs hl ra => ?_
 refine wpAny_list_append_plain (items := vs.toArray) hl (fun h' hl' hs' => ?_) (by rw [List.size_toArray, ra.length]; exact hsz)
 have haX := (F.owns _ hx.mem).2
 have hm : Same X s.heap h' := .of_but hs' (.inl haX)
 refine h h' s.toks (F.setOwn hx hs' ⟨vs ++ [v], ?_, (ra.mono hm).append (.cons (r.mono hm) .nil)⟩) (.but hs' (.inr (.inr (List.mem_map.mpr ⟨_, hx.mem, rfl⟩)))) fun b o q e => (hs'.2 b q).trans e
 have e : vs.toArray.push v = (vs ++ [v]).toArray := by simp
 rw [e] at hl'; exact hl'
theorem ex_append {oe e : Expr} {apos cpos pos : Pos} {rest : List Stmt} {a : Addr} {ds : List D} {d : D} {ow' : Own} {pl : Sem Bool} (ho : Ev G n env ρ ow oe (own a)) (hx : OSet a (.list ds) (.list (ds ++ [d])) ow ow') (he : EvAll G n env ρ ow [e] [d]) (hs : noStar [e] = true) (hsz : ds.length ≤ sizeLine)
  (hq : eval (.Call (.Attribute oe "append" apos) [e] [] cpos) env = (do
    let ov ← eval oe env
    standAt apos.atName
    let (f, first) ← holding [ov] (getMethod ov "append" pl)
    callWith cpos f first (backTo cpos (starEach [e] env)) []))
  (hi : interactive env = false) (hsw : swapsWith (.Call (.Attribute oe "append" apos) [e] [] cpos) none pos.line env = pure false)
  (h : Ex G n env ρ ow' (rest :: bs) o) : Ex G n env ρ ow ((.Expr (.Call (.Attribute oe "append" apos) [e] [] cpos) pos :: rest) :: bs) o := .mk <| fun X A s E R B F => by
 refine wpAny_execs_cons (wpAny_Expr_any (MethodCall_ (wpAny_mono (ho.go X A s E R F) (fun v s₁ q => ?_) fun _ _ x => x) hq) hi hsw)
 obtain ⟨q, g⟩ := q
 refine Rep.eRaw q ?_
 have F₁ := F.keeps g
 refine el12 ((F₁.owns _ hx.mem).1) fun vs hl ra => ?_
 refine getMethod_builtin hl.isList.typeIs PySem.F.plainAttrs_list slot_list_append (by show builtinType _ = _; rw [builtinType_eq_fast]; kernel_rfl) (fun a e => by (injection e with y0; subst y0); exact hl.noDict) ?_
 refine callWith_method1 (wpAny_mono (he.go cpos X A s₁ E R F₁) (fun vs s₂ q₂ => ?_) fun _ _ x => x) (starEach_cons hs) (backTo_any (noStar_tail hs))
 obtain ⟨q₂, g₂⟩ := q₂
 refine RepAll.eCons q₂ fun r r' => ?_; refine RepAll.eNil r' ?_; exact append_own (F₁.keeps g₂) hx r hsz fun h' tk F' t' _ => h.from R B F' ((g.trans g₂).turn.trans t') fun b q => .inl (mut_same hx.keys q)
theorem ex_assert {t : Expr} {m : Option Expr} {pos : Pos} {rest : List Stmt} {c : Bool} (ht : Tst G n env ρ ow t c) (hc : c = true) (h : Ex G n env ρ ow (rest :: bs) o) : Ex G n env ρ ow ((.Assert t m pos :: rest) :: bs) o := .mk <| fun X A s E R B F =>
 wpAny_execs_cons (wpAny_Assert_holds (wpAny_mono (ht.go X A s E R F) (fun c' s₁ q => ⟨q.1.trans hc, h.from' R B (F.keeps q.2) q.2.turn⟩) fun _ _ x => x))
structure IncIs (op : Operator) (d₁ d₂ d : D) : Prop where
 go : ∀ (prog : Program) (w : World) (X : List Addr) (A : Around) (s : Shared) (E : Value → Shared → Prop) v₁ v₂, A.units < cLine → Live X s.heap → Rep X s.heap v₁ d₁ → Rep X s.heap v₂ d₂ →
 wpAny (model prog w) A (inplaceOp op v₁ v₂) (EvQ X d s) E s
theorem inc_add {a b : Int} : IncIs .Add (.int a) (.int b) (.int (a + b)) := .mk <| fun prog w X A s E v₁ v₂ _ _ r₁ r₂ => by
 refine Rep.eInt r₁ fun _ => ?_; refine Rep.eInt r₂ fun _ => ?_; exact iadd_int ⟨.int _ _, .toks _ _⟩
theorem inc_cat {a b : List Nat} (h : a.length + b.length ≤ sizeLine) : IncIs .Add (.str a) (.str b) (.str (a ++ b)) := .mk <| fun prog w X A s E v₁ v₂ _ _ r₁ r₂ => by
 refine Rep.eStr r₁ fun _ => ?_; refine Rep.eStr r₂ fun _ => ?_
 refine iadd_str (fun t' tk => ⟨?_, .toks _ _⟩) (by simpa [Str.length] using h)
 rw [str_app]; exact .str _ _
theorem load_var {x : Str} {d : D} {X : List Addr} {A : Around} {s : Shared} {E : Value → Shared → Prop} {Q : Value → Shared → Prop} {prog : Program} {w : World} (F : Fits G env X ρ ow s) (h : ρ.lookup x = some d) (hc : (x == ("__classdict__" : Str)) = false) (hQ : ∀ v, Rep X s.heap v d → Q v s) : wpAny (model prog w) A (loadName env x) Q E s := by
 cases F.vars x d h with
 | loc m v hk hn hm hr => exact wpAny_loadName_local F.fn hk hn hm (hQ v hr)
 | cell c v hk hc' hv hr =>
  refine Or.elim hk (fun hk => ?_) (fun hk => ?_)
  ·exact wpAny_loadName_cell F.fn hk hc' hv (hQ v hr)
  ·exact wpAny_loadName_free F.fn hk hc' hv (hQ v hr) hc
theorem ex_aug {x : Str} {px pos : Pos} {op : Operator} {e : Expr} {rest : List Stmt} {d₁ d₂ d : D} (hk : storable env x = true) (hc : (x == ("__classdict__" : Str)) = false) (hx : ρ.lookup x = some d₁) (he : Ev G n env ρ ow e d₂) (hi : IncIs op d₁ d₂ d) (h : Ex G n env ((x, d) :: ρ) ow (rest :: bs) o) :
  Ex G n env ρ ow ((.AugAssign (.Name x px) op e pos :: rest) :: bs) o := .mk <| fun X A s E R B F => by
 refine wpAny_execs_cons (wpAny_AugAssign_Name (load_var F hx hc fun v₁ r₁ => wpAny_mono (he.go X A s E R F) (fun v₂ s₁ q => ?_) fun _ _ y => y))
 have F₁ := F.keeps q.2
 refine wpAny_mono (hi.go _ _ X A s₁ E v₁ v₂ R.units F₁.live (r₁.keeps q.2.heap) q.1) (fun v s₂ q₂ => ?_) fun _ _ y => y
 exact store_any hk (F₁.keeps q₂.2) q₂.1 fun h' tk F' t' _ => h.from' R B F' ((q.2.trans q₂.2).turn.trans t')
theorem Rep.tup2 {X : List Addr} {h : Heap} {v : Value} {d₁ d₂ : D} (r : Rep X h v (.tup [d₁, d₂])) : ∃ a v₁ v₂, v = .ref a ∧ h.IsTuple a #[v₁, v₂] ∧ Rep X h v₁ d₁ ∧ Rep X h v₂ d₂ := by
 refine Rep.eTup r fun ht hf ra => ?_
 revert ht
 refine RepAll.eCons ra fun r₁ ra => ?_
 refine RepAll.eCons ra fun r₂ ra => ?_
 refine RepAll.eNil ra ?_; intro ht
 obtain ⟨ob, ho, hc, k, q⟩ := ht
 exact ⟨_, _, _, rfl, ⟨ob, ho, hc, k, q⟩, r₁, r₂⟩
structure UnpIs (d d₁ d₂ : D) : Prop where
 go : ∀ (prog : Program) (w : World) (X : List Addr) (A : Around) (s : Shared) (Q : List Value → Shared → Prop) (E : Value → Shared → Prop) v, A.handled = none → Rep X s.heap v d →
  (∀ v₁ v₂ h' tk, (∀ b o, s.heap.get? b = some o → h'.get? b = some o) → Rep X s.heap v₁ d₁ → Rep X s.heap v₂ d₂ → Q [v₁, v₂] { s with heap := h', toks := tk }) → wpAny (model prog w) A (unpackItems v 2 none) Q E s
theorem unp_tup {d₁ d₂ : D} : UnpIs (.tup [d₁, d₂]) d₁ d₂ := .mk fun prog w X A s Q E v hh r hQ => by
 refine el34 r.tup2 fun a v₁ v₂ y0 => ?_; subst y0; intro ht r₁ r₂
 exact wpAny_unpackItems_tuple (items := #[v₁, v₂]) hh ht fun h' k => hQ v₁ v₂ h' s.toks (fun b o e => k b o (Nat.ne_of_lt (Heap.lt_size e)) e) r₁ r₂
theorem draw_list {prog : Program} {w : World} {A : Around} {E : Value → Shared → Prop} {it t : Addr} {items : Array Value} (hne : t ≠ it) : ∀ (n i : Nat) (s : Shared) (Q : List Value → Shared → Prop), s.heap.IsListIter it t i → s.heap.IsList t items → i + n ≤ items.size →
  (∀ h', h'.IsListIter it t (i + n) → Heap.SameBut it s.heap h' → Q ((items.toList.drop i).take n) { s with heap := h' }) → wpAny (model prog w) A (draw (.ref it) n) Q E s
 | 0, i, s, Q, hit, _, _, hQ => by
  show wpAny _ _ (pure []) Q E s
  exact wpAny_pure (by simpa using hQ s.heap hit (Heap.SameBut.refl ..))
 | n + 1, i, s, Q, hit, ht, hle, hQ => by
  have hlt : i < items.size := by omega
  show wpAny _ _ (pyNext (.ref it) >>= _) Q E s
  refine wpAny_bind (wpAny_pyNext_list_item hit ht (x := items[i]) (by simp [hlt]) fun h₁ hit₁ hs₁ => ?_)
  refine wpAny_bind (wpAny_holding (draw_list hne n (i + 1) _ _ hit₁ (ht.extBut hs₁.extBut hne) (by omega) fun h₂ hit₂ hs₂ => wpAny_pure ?_))
  have hd : items.toList.drop i = items[i] :: items.toList.drop (i + 1) := by simp [List.drop_eq_getElem_cons, hlt]
  have := hQ h₂ (by rw [show i + (n + 1) = i + 1 + n by omega]; exact hit₂) (hs₁.trans hs₂)
  rw [hd, List.take_succ_cons] at this
  exact this
theorem asg_pair {x y : Str} {px py tp : Pos} {k : Nat} {d d₁ d₂ : D} {T : Addr → Prop} (hx : storable env x = true) (hy : storable env y = true) (hu : UnpIs d d₁ d₂) (hT : T env.locals) (hTx : env.kindOf x = some .cell → ∀ c, env.cells.lookup x = some c → T c) (hTy : env.kindOf y = some .cell → ∀ c, env.cells.lookup y = some c → T c) :
  Asg G n env ow T (.Tuple [.Name x px, .Name y py] k tp) d ρ ((y, d₂) :: (x, d₁) :: ρ) := .mk fun X A s Q E v R F r hQ => by
 rw [arm_assign_Tuple]
 refine wpAny_bind (wpAny_standAt ?_)
 unfold unpack
 show wpAny _ _ (holding [v] (unpackItems v 2 none) >>= fun items => assignInOrder [assign (.Name x px) env, assign (.Name y py) env] items) _ _ _
 refine wpAny_bind (wpAny_holding <| hu.go _ _ X A s _ E v R.hd r fun v₁ v₂ h' tk k r₁ r₂ => ?_)
 have g : Grow s { s with heap := h', toks := tk } := .of k
 refine assignInOrder_cons (wpAny_assign_Name (store_any hx (F.keeps g) (r₁.keeps k) fun h₁ t₁ F₁ T₁ k₁ => ?_))
 have r₂' : Rep X h₁ v₂ d₂ := (r₂.keeps k).mono (T₁.sameX (F.keeps g))
 refine assignInOrder_cons (wpAny_assign_Name (store_any hy F₁ r₂' fun h₂ t₂ F₂ T₂ k₂ => assignInOrder_nil ?_))
 exact hQ _ .of (fun b o hb e => k₂ b o (fun q => hb (q ▸ hT)) (fun hc c hcl q => hb (q ▸ hTy hc c hcl)) (k₁ b o (fun q => hb (q ▸ hT)) (fun hc c hcl q => hb (q ▸ hTx hc c hcl)) (k b o e))) F₂
theorem ex_pair {x y : Str} {px py tp pos : Pos} {k : Nat} {e : Expr} {rest : List Stmt} {d d₁ d₂ : D} (hx : storable env x = true) (hy : storable env y = true) (hs : swapsWithSole [.Tuple [.Name x px, .Name y py] k tp] e pos.line env = pure false) (hw : swappedStores [.Tuple [.Name x px, .Name y py] k tp] e env = pure none)
  (he : Ev G n env ρ ow e d) (hu : UnpIs d d₁ d₂) (h : Ex G n env ((y, d₂) :: (x, d₁) :: ρ) ow (rest :: bs) o) : Ex G n env ρ ow ((.Assign [.Tuple [.Name x px, .Name y py] k tp] e pos :: rest) :: bs) o := .mk <| fun X A s E R B F => by
 refine wpAny_execs_cons (Assign_Tuple (wpAny_mono (he.go X A s E R F) (fun v s₁ q => ?_) fun _ _ x => x) hs hw)
 refine (asg_pair (n := n) (T := Mut env ow) hx hy hu (.inl rfl) (fun _ c hc => .inr (.inl ⟨_, hc⟩)) fun _ c hc => .inr (.inl ⟨_, hc⟩)).go X A s₁ _ E v R (F.keeps q.2) q.1 fun s₂ e₂ k₂ F₂ => ?_
 exact h.from' R B F₂ (q.2.turn.trans ⟨e₂, k₂⟩)
theorem ex_pair_sw {x y : Str} {px py tp pos : Pos} {k : Nat} {e : Expr} {rest : List Stmt} {d d₁ d₂ : D} (hx : storable env x = true) (hy : storable env y = true) (hs : swapsWithSole [.Tuple [.Name x px, .Name y py] k tp] e pos.line env = pure false) (hw : swappedStores [.Tuple [.Name x px, .Name y py] k tp] e env = pure (some [x, y]))
  (he : Ev G n env ρ ow e d) (hu : UnpIs d d₁ d₂) (h : Ex G n env ((x, d₁) :: (y, d₂) :: ρ) ow (rest :: bs) o) : Ex G n env ρ ow ((.Assign [.Tuple [.Name x px, .Name y py] k tp] e pos :: rest) :: bs) o := .mk <| fun X A s E R B F => by
 refine wpAny_execs_cons (Assign_Tuple_swapped (wpAny_mono (he.go X A s E R F) (fun v s₁ q => ?_) fun _ _ x => x) hs hw)
 refine hu.go _ _ X A s₁ _ E v R.hd q.1 fun v₁ v₂ h' tk k r₁ r₂ => ?_
 have g : Grow s { s₁ with heap := h', toks := tk } := q.2.trans (.of k)
 show wpAny _ _ (assignInOrder [bindName env y, bindName env x] [v₂, v₁]) _ _ _
 refine assignInOrder_cons (wpAny_bindName (store_any hy (F.keeps g) (r₂.keeps k) fun h₁ t₁ F₁ T₁ k₁ => ?_))
 have r₁' : Rep X h₁ v₁ d₁ := (r₁.keeps k).mono (T₁.sameX (F.keeps g))
 refine assignInOrder_cons (wpAny_bindName (store_any hx F₁ r₁' fun h₂ t₂ F₂ T₂ k₂ => assignInOrder_nil ?_))
 exact h.from' R B F₂ ((g.turn.trans T₁).trans T₂)
theorem ex_freeze (x : Str) {a : Addr} {ds : List D} {ow' : Own} (hx : ρ.lookup x = some (own a)) (ha : (a, OO.list ds) ∈ ow) (hw : OSub ow' ow) (hn : a ∉ ow'.map (·.1)) (hnd : (ow.map (·.1)).Nodup → (ow'.map (·.1)).Nodup) (hb : a ∉ o.base) (h : Ex G n env ((x, .list ds) :: ρ) ow' bs o) : Ex G n env ρ ow bs o := .mk <| fun X A s E R B F => by
 refine h.from R (fun b q => List.mem_filter.mpr ⟨B b q, by simp only [bne_iff_ne, ne_eq]; exact fun z => hb (z ▸ q)⟩) (F.freeze hx ha hw hn (hnd F.nd)) (Grow.refl s).turn fun b q => .inl (mut_sub hw q)
noncomputable def flat : D → Bool
 | .none | .bool _ | .int _ | .str _ | .bytes _ | .raw _ => true
 | _ => false
theorem Rep.flat {X X' : List Addr} {h : Heap} {v : Value} {d : D} (hf : flat d = true) (r : Rep X h v d) : Rep X' h v d := by
 cases r <;> first | (simp [Mine.flat] at hf; done) | constructor
theorem ev_freeze (x : Str) {e : Expr} {d : D} {a : Addr} {ds : List D} {ow' : Own} (hx : ρ.lookup x = some (own a)) (ha : (a, OO.list ds) ∈ ow) (hw : OSub ow' ow) (hn : a ∉ ow'.map (·.1)) (hnd : (ow.map (·.1)).Nodup → (ow'.map (·.1)).Nodup) (hd : flat d = true) (h : Ev G n env ((x, .list ds) :: ρ) ow' e d) : Ev G n env ρ ow e d := .mk <| fun X A s E R F =>
 wpAny_mono (h.go _ A s E R (F.freeze hx ha hw hn (hnd F.nd))) (fun v s' q => ⟨q.1.flat hd, q.2⟩) fun _ _ y => y
end
end
section
noncomputable def testsOf (ifs : List Expr) (env : Env) : Sem Bool := forIn ifs true fun c r => if r = true then do let ok ← isTrue c env (eval c env); pure (ForInStep.yield ok) else pure (ForInStep.yield r)
noncomputable def putOut (acc : Value) (elt : Expr) (env : Env) (k : Sem PySem.Fin) : Sem PySem.Fin := do
 (do let _ ← call (.builtin "list.append") [acc, ← eval elt env])
 k
noncomputable def inner (e : Expr) (iter' : Expr) (depth : Nat) (acc : Value) (env : Env) (k : Sem PySem.Fin) : Sem PySem.Fin := do
 let x ← eval iter' env
 standAt iter'.pos
 let x ← foldedSetIterable iter' env x
 let _ ← runOwn (.compStart e depth (← holding [x] (pyIter x)) acc env) env
 k
theorem turn_one (elt target iter : Expr) (ifs : List Expr) (scope : Scope) (pos : Pos) (it acc : Value) (env : Env) :
  compTurn (.ListComp elt [⟨target, iter, ifs, 0⟩] scope pos) 0 it acc env = (do
   standAt iter.pos
   match ← pyNext it with
   | none => pure (.done .next)
   | some v =>
    letOwnedTupleGo target it v
    assign target env v
    let ok ← testsOf ifs env
    if ok then putOut acc elt env (again (.compLoop (.ListComp elt [⟨target, iter, ifs, 0⟩] scope pos) 0 it acc env)) else again (.compLoop (.ListComp elt [⟨target, iter, ifs, 0⟩] scope pos) 0 it acc env)) := by rfl
theorem turn_two (elt target iter target' iter' : Expr) (ifs ifs' : List Expr) (scope : Scope) (pos : Pos) (it acc : Value) (env : Env) :
  compTurn (.ListComp elt [⟨target', iter', ifs', 0⟩, ⟨target, iter, ifs, 0⟩] scope pos) 1 it acc env = (do
   standAt iter.pos
   match ← pyNext it with
   | none => pure (.done .next)
   | some v =>
    letOwnedTupleGo target it v
    assign target env v
    let ok ← testsOf ifs env
    if ok then putOut acc elt env (again (.compLoop (.ListComp elt [⟨target', iter', ifs', 0⟩, ⟨target, iter, ifs, 0⟩] scope pos) 1 it acc env)) else again (.compLoop (.ListComp elt [⟨target', iter', ifs', 0⟩, ⟨target, iter, ifs, 0⟩] scope pos) 1 it acc env)) := by rfl
theorem turn_outer (elt target iter target' iter' : Expr) (ifs ifs' : List Expr) (scope : Scope) (pos : Pos) (it acc : Value) (env : Env) :
  compTurn (.ListComp elt [⟨target, iter, ifs, 0⟩, ⟨target', iter', ifs', 0⟩] scope pos) 0 it acc env = (do
   standAt iter.pos
   match ← pyNext it with
   | none => pure (.done .next)
   | some v =>
    letOwnedTupleGo target it v
    assign target env v
    let ok ← testsOf ifs env
    if ok then inner (.ListComp elt [⟨target, iter, ifs, 0⟩, ⟨target', iter', ifs', 0⟩] scope pos) iter' 1 acc env (again (.compLoop (.ListComp elt [⟨target, iter, ifs, 0⟩, ⟨target', iter', ifs', 0⟩] scope pos) 0 it acc env)) else again (.compLoop (.ListComp elt [⟨target, iter, ifs, 0⟩, ⟨target', iter', ifs', 0⟩] scope pos) 0 it acc env)) := by rfl
theorem cp_turns {prog : Program} {w : World} {A : Around} {elt target : Expr} {gens : List Comprehension} {ifs : List Expr} {scope : Scope} {pos p : Pos} {depth : Nat} {it acc : Value} {env : Env} {emitK : Sem PySem.Fin → Sem PySem.Fin} {R : Result → Shared → Prop} {s : Shared}
  (hturn : compTurn (.ListComp elt gens scope pos) depth it acc env = (do
   standAt p
   match ← pyNext it with
   | none => pure (.done .next)
   | some v =>
    letOwnedTupleGo target it v
    assign target env v
    let ok ← testsOf ifs env
    if ok then emitK (again (.compLoop (.ListComp elt gens scope pos) depth it acc env)) else again (.compLoop (.ListComp elt gens scope pos) depth it acc env)))
  (I : Nat → Shared → Prop)
  (turn : ∀ n s E', I n s → wpAny (model prog w) A (pyNext it) (fun r s₁ => match r with
   | none => R (.ok .next) s₁
   | some v => wpAny (model prog w) A (letOwnedTupleGo target it v) (fun _ s₁' => wpAny (model prog w) A (assign target env v) (fun _ s₂ =>
     wpAny (model prog w) A (testsOf ifs env) (fun ok s₃ =>
      if ok = true then ∀ k Q, (∀ s₅, (∃ m, m < n ∧ I m s₅) → wpAny (model prog w) A k Q E' s₅) → wpAny (model prog w) A (emitK k) Q E' s₃
      else ∃ m, m < n ∧ I m s₃) E' s₂) E' s₁') E' s₁) E' s)
  (n : Nat) (h : I n s) : codeAny (model prog w) A (.compLoop (.ListComp elt gens scope pos) depth it acc env) R s := by
 refine codeAny_loop rfl I (fun n s hI => ?_) n h
 show wpAny _ A ((compTurn (.ListComp elt gens scope pos) depth it acc env).onRaise (fun x => do noteFrame x env; theTreesLotGoes x)) _ _ s
 refine wpAny_noted ?_
 rw [hturn]
 refine wpAny_bind (wpAny_standAt (wpAny_bind (wpAny_mono (turn n s _ hI) (fun r s₁ h₁ => ?_) fun _ _ h' => h')))
 cases r with
 | none => exact wpAny_pure h₁
 | some v =>
  refine wpAny_bind (wpAny_mono h₁ (fun _ s₁' h₁' => wpAny_bind (wpAny_mono h₁' (fun _ s₂ h₂ => wpAny_bind (wpAny_mono h₂ (fun ok s₃ h₃ => ?_) fun _ _ h' => h')) fun _ _ h' => h')) fun _ _ h' => h')
  cases ok with
  | false => exact wpAny_pure ⟨rfl, h₃⟩
  | true => exact h₃ _ _ fun s₅ h₅ => wpAny_pure ⟨rfl, h₅⟩
structure Tsts (G : Gd) (n : Nat) (env : Env) (ρ : Loc) (ow : Own) (ifs : List Expr) (b : Bool) : Prop where
 go : ∀ (X : List Addr) (A : Around) (s : Shared) (E : Value → Shared → Prop), Room n A → Fits G env X ρ ow s → wpAny (model G.prog G.w) A (testsOf ifs env) (IsQ b s) E s
theorem tsts_nil {G : Gd} {n : Nat} {env : Env} {ρ : Loc} {ow : Own} : Tsts G n env ρ ow [] true := .mk fun X A s E R F => wpAny_tests_nil ⟨rfl, .refl _⟩
theorem tsts_one {G : Gd} {n : Nat} {env : Env} {ρ : Loc} {ow : Own} {c : Expr} {b : Bool} (h : Tst G n env ρ ow c b) : Tsts G n env ρ ow [c] b := .mk fun X A s E R F => wpAny_tests_one (h.go X A s E R F)
noncomputable def CT (env : Env) (da b : Addr) : Prop := b = env.locals ∨ b = da
theorem CT.mut {env : Env} {da b : Addr} {l : OO} (h : CT env da b) : Mut env [(da, l)] b := h.imp id fun h => .inr (List.mem_singleton.mpr h)
structure Keep (T : Addr → Prop) (s s' : Shared) : Prop where
 same : Kin s s'
 heap : ∀ b o, ¬ T b → s.heap.get? b = some o → s'.heap.get? b = some o
structure Emit (G : Gd) (n : Nat) (env : Env) (da : Addr) (ρ : Loc) (emitK : Sem PySem.Fin → Sem PySem.Fin) (out : List D) : Prop where
 go : ∀ (X : List Addr) (A : Around) (s : Shared) (E : Value → Shared → Prop) (done : List D), Room n A → Fits G env X ρ [(da, .list done)] s → done.length + out.length ≤ sizeLine →
  ∀ k Q, (∀ s', Fits G env X ρ [(da, .list (done ++ out))] s' → Keep (CT env da) s s' → wpAny (model G.prog G.w) A k Q E s') → wpAny (model G.prog G.w) A (emitK k) Q E s
structure Loops (G : Gd) (n : Nat) (env : Env) (da : Addr) (ρ : Loc) (e : Expr) (depth : Nat) (target : Expr) (ds out : List D) : Prop where
 go : ∀ (X Y : List Addr) (A : Around) (s : Shared) (it : Value) (fp wr : List Addr) (St : List Addr → Nat → Heap → Prop) (done : List D) (R : Result → Shared → Prop), Room n A → Fits G env Y ρ [(da, .list done)] s → (∀ a ∈ X, a ∈ Y) → (∀ b ∈ wr, b ∈ Y) → da ∈ X → Live X s.heap →
  Run G.prog G.w A target it fp wr ds St → St Y 0 s.heap → (∀ b ∈ wr, ¬ Mut env [(da, .list [])] b ∧ G.H₀.get? b = none ∧ b ∉ X) → (∀ b ∈ fp, ¬ CT env da b) → done.length + out.length ≤ sizeLine →
  (∀ s', Fits G env X ρ [(da, .list (done ++ out))] s' → Kin s s' → (∀ b o, ¬ CT env da b → b ∉ wr → s.heap.get? b = some o → s'.heap.get? b = some o) → R (.ok .next) s') →
  codeAny (model G.prog G.w) A (.compLoop e depth it (.ref da) env) R s
section
variable {G : Gd} {n : Nat} {env : Env} {da : Addr} {ρ : Loc}
inductive LoI (G : Gd) (env : Env) (Y : List Addr) (ρ : Loc) (da : Addr) (out : Nat → List D) (wr : List Addr) (St : List Addr → Nat → Heap → Prop) (s : Shared) (N k : Nat) (s' : Shared) : Prop
 | mk (i : Nat) : i ≤ N → k = N - i → Fits G env Y ρ [(da, .list (out i))] s' → St Y i s'.heap → Kin s s' → (∀ b o, ¬ CT env da b → b ∉ wr → s.heap.get? b = some o → s'.heap.get? b = some o) → LoI G env Y ρ da out wr St s N k s'
theorem loops_of {elt target : Expr} {gens : List Comprehension} {ifs : List Expr} {scope : Scope} {pos p : Pos} {depth : Nat} {emitK : Sem PySem.Fin → Sem PySem.Fin} {ds : List D} (F : D → List D)
  (hturn : ∀ it, compTurn (.ListComp elt gens scope pos) depth it (.ref da) env = (do
   standAt p
   match ← pyNext it with
   | none => pure (.done .next)
   | some v =>
    letOwnedTupleGo target it v
    assign target env v
    let ok ← testsOf ifs env
    if ok then emitK (again (.compLoop (.ListComp elt gens scope pos) depth it (.ref da) env)) else again (.compLoop (.ListComp elt gens scope pos) depth it (.ref da) env)))
  (step : ∀ d ∈ ds, ∃ ρ' b, (∀ done, Asg G n env [(da, .list done)] (CT env da) target d ρ ρ') ∧ Sub ρ ρ' ∧ (∀ done, Tsts G n env ρ' [(da, .list done)] ifs b) ∧ (b = true → Emit G n env da ρ' emitK (F d)) ∧ (b = false → F d = [])) :
  Loops G n env da ρ (.ListComp elt gens scope pos) depth target ds (ds.flatMap F) := .mk fun X Y A s it fp wr St done R Rm F₀ hXY hwX hDX hL hR h0 aw afp hsz hend => by
 refine cp_turns (hturn it) (LoI G env Y ρ da (fun i => done ++ (ds.take i).flatMap F) wr St s ds.length) ?_ ds.length
  ⟨0, Nat.zero_le _, rfl, by simpa using F₀, h0, .of, fun _ _ _ _ e => e⟩
 intro k s₂ E' y0; obtain ⟨i, hi, rfl, F₂, st, e₂, hk₂⟩ := y0
 refine Or.elim (Nat.lt_or_ge i ds.length) (fun hlt => ?_) (fun hge => ?_)
 ·refine el11 (⟨ds[i], List.getElem?_eq_getElem hlt⟩ : ∃ d, ds[i]? = some d) fun d hd => ?_
  refine el25 (step d (List.mem_of_getElem? hd)) fun ρ' b hasg hsub htst hem hno => ?_
  have htake : (ds.take (i + 1)).flatMap F = (ds.take i).flatMap F ++ F d := by rw [List.take_add_one, hd]; simp
  have hlen : (done ++ (ds.take i).flatMap F).length + (F d).length ≤ sizeLine := by
   have e : ds.flatMap F = (ds.take (i + 1)).flatMap F ++ (ds.drop (i + 1)).flatMap F := by rw [← List.flatMap_append, List.take_append_drop]
   rw [e, htake] at hsz
   simp only [List.length_append] at hsz ⊢
   omega
  let I' : Shared → Prop := fun s₃ => ∃ m, m < ds.length - i ∧ LoI G env Y ρ da (fun i => done ++ (ds.take i).flatMap F) wr St s ds.length m s₃
  refine wpAny_mono (hR.item Y i d _ (fun v s₃ => wpAny (model G.prog G.w) A (assign target env v) (fun _ s₂' => wpAny (model G.prog G.w) A (testsOf ifs env) (fun ok s₃ => if ok = true then ∀ k Q, (∀ s₅, I' s₅ → wpAny (model G.prog G.w) A k Q E' s₅) → wpAny (model G.prog G.w) A (emitK k) Q E' s₃ else I' s₃) E' s₂') E' s₃) E' hwX hd st F₂.live fun v h' tk hv st' hk hl => ?_) (fun r s₃ q => ?_) fun _ _ y => y
  ·have F₃ : Fits G env Y ρ [(da, .list (done ++ (ds.take i).flatMap F))] { s₂ with heap := h', toks := tk } := F₂.wr (tk := tk) hk hwX (fun _ q => q) (fun p hp => (F₂.owns p hp).2) (fun b hb _ => hl b hb) fun b hb => ⟨(aw b hb).1, (aw b hb).2.1⟩
   refine (hasg _).go _ A _ _ _ v Rm F₃ hv fun s₄ e₄ k₄ F₄ => ?_
   have st₄ : St Y (i + 1) s₄.heap := hR.frame _ _ _ _ st' (fun b hb o e => k₄ b o (afp b hb) e) fun b o hb l e => k₄ b o (fun q => F₃.look_away hb e l q.mut) e
   refine wpAny_mono ((htst _).go _ A s₄ E' Rm F₄) (fun ok s₅ q => ?_) fun _ _ y => y
   obtain ⟨rfl, g⟩ := q
   have F₅ := F₄.keeps g
   have st₅ : St Y (i + 1) s₅.heap := hR.frame _ _ _ _ st₄ (fun b hb o e => g.heap b o e) fun b o hb l e => g.heap b o e
   have e₅ : Kin s s₅ := (e₂.trans (Kin.of.trans e₄)).trans g.same
   have k₅ : ∀ b o, ¬ CT env da b → b ∉ wr → s.heap.get? b = some o → s₅.heap.get? b = some o := fun b o hb hw e => g.heap b o (k₄ b o hb (hk b o hw (hk₂ b o hb hw e)))
   cases ok with
   | true =>
    rw [if_pos rfl]
    intro kk Q hkk
    refine (hem rfl).go _ A s₅ E' _ Rm F₅ hlen kk Q fun s₆ F₆ t₆ => hkk s₆ ?_
    refine ⟨ds.length - (i + 1), by omega, i + 1, hlt, rfl, ?_, hR.frame _ _ _ _ st₅ (fun b hb o e => t₆.heap b o (afp b hb) e) (fun b o hb l e => t₆.heap b o (fun q => F₅.look_away hb e l q.mut) e), ?_, fun b o hb hw e => t₆.heap b o hb (k₅ b o hb hw e)⟩
    ·rw [htake, ← List.append_assoc]; exact F₆.sub hsub
    ·exact e₅.trans t₆.same
   | false =>
    rw [if_neg (by simp)]
    refine ⟨ds.length - (i + 1), by omega, i + 1, hlt, rfl, ?_, st₅, e₅, k₅⟩
    rw [htake, hno rfl, List.append_nil]; exact F₅.sub hsub
  ·refine el12 q fun v y0 => ?_; subst y0; intro q
   exact q
 ·have : i = ds.length := Nat.le_antisymm hi hge
  subst this
  refine hR.done _ _ _ _ st fun h' tk hk => ?_
  rw [List.take_length] at F₂
  have F₃ : Fits G env X ρ [(da, .list (done ++ ds.flatMap F))] { s₂ with heap := h', toks := tk } := F₂.wr (tk := tk) hk hwX hXY (fun p hp => by rw [List.mem_singleton.mp hp]; exact hDX) (fun b hb hbX => absurd hbX (aw b hb).2.2) fun b hb => ⟨(aw b hb).1, (aw b hb).2.1⟩
  exact hend _ F₃ (e₂.trans .of) fun b o hb hw e => hk b o hw (hk₂ b o hb hw e)
theorem emit_elt {elt : Expr} {d : D} (h : ∀ done, Ev G n env ρ [(da, .list done)] elt d) : Emit G n env da ρ (putOut (.ref da) elt env) [d] := .mk fun X A s E done R F hsz k Q hk => by
 refine wpAny_bind (wpAny_bind (wpAny_mono ((h done).go X A s E R F) (fun v s₁ q => ?_) fun _ _ y => y))
 refine wpAny_bind (append_own (F.keeps q.2) (.head []) q.1 (by simp at hsz; omega) fun h' tk F' t' k' => wpAny_pure (hk _ F' ⟨q.2.same.trans .of, fun b o hb e => k' b o (fun z => hb (.inr z)) (q.2.heap b o e)⟩))
end
end
section
theorem compStart_any {prog : Program} {w : World} {A : Around} {elt : Expr} {gens : List Comprehension} {scope : Scope} {pos : Pos} {depth : Nat} {it acc : Value} {env : Env} {R : Result → Shared → Prop} {s : Shared} {g : Comprehension} (hg : gens[depth]? = some g) (ha : g.is_async = 0)
  (h0 : codeAny (model prog w) A (.compLoop (.ListComp elt gens scope pos) depth it acc env) R s)
  (h : ∀ E, wpAny (model prog w) A (pyIter it) (fun it' s' => codeAny (model prog w) A (.compLoop (.ListComp elt gens scope pos) depth it' acc env) R s') E s) :
  codeAny (model prog w) A (.compStart (.ListComp elt gens scope pos) depth it acc env) R s := by
 refine codeAny_of_tree ?_
 show wpAny _ _ ((compStart (.ListComp elt gens scope pos) depth it acc env).onRaise (fun x => do noteFrame x env; standAt theWindowsPlace)) _ _ s
 refine wpAny_notedAt ?_
 unfold compStart
 have e : (clausesOf (.ListComp elt gens scope pos))[depth]? = some g := hg
 rw [e]
 simp only [Option.elim_some, ha]
 show wpAny _ _ (ask >>= _) _ _ s
 refine wpAny_bind (wpAny_askSetting (wpAny_ite ?_))
 split
 ·first
   | exact wpAny_bind (wpAny_pure (wpAny_pure (And.intro rfl h0)))
   | exact wpAny_pure (And.intro rfl h0)
 ·first
   | exact wpAny_bind (wpAny_rule (wpAny_bind (wpAny_standAt (wpAny_bind (wpAny_mono (h _) (fun it' s' h' => wpAny_pure (And.intro rfl h')) fun _ _ x => x)))))
   | (refine wpAny_bind (wpAny_rule ?_); show wpAny _ _ (standAt g.iter.pos >>= _) _ _ s; exact wpAny_bind (wpAny_standAt (wpAny_bind (wpAny_mono (h _) (fun it' s' h' => wpAny_pure (And.intro rfl h')) fun _ _ x => x))))
section
variable {G : Gd} {n : Nat} {env : Env} {da : Addr} {ρ : Loc}
theorem emit_inner {elt target iter target' iter' : Expr} {ifs ifs' : List Expr} {scope : Scope} {pos : Pos} {ds out : List D} (hs : ∀ done, Src G n env ρ [(da, .list done)] target' iter' ds) (hfold : ∀ x, foldedSetIterable iter' env x = pure x)
  (hl : Loops G n env da ρ (.ListComp elt [⟨target, iter, ifs, 0⟩, ⟨target', iter', ifs', 0⟩] scope pos) 1 target' ds out) :
  Emit G n env da ρ (inner (.ListComp elt [⟨target, iter, ifs, 0⟩, ⟨target', iter', ifs', 0⟩] scope pos) iter' 1 (.ref da) env) out := .mk fun X A s E done R F hsz k Q hk => by
 unfold inner
 refine wpAny_bind (wpAny_mono ((hs done).go X A s (fun it s₂ => wpAny (model G.prog G.w) A (runOwn (.compStart (.ListComp elt [⟨target, iter, ifs, 0⟩, ⟨target', iter', ifs', 0⟩] scope pos) 1 it (.ref da) env) env) (fun _ s₃ => wpAny (model G.prog G.w) A k Q E s₃) E s₂) E R F fun it fp wr St s₂ hR h0 g hw hf => ?_) (fun x s₁ h₁ => wpAny_bind (wpAny_standAt (wpAny_bind (wpAny_of_eq (hfold x) (wpAny_bind (wpAny_holding (wpAny_mono h₁ (fun it s₂ h₂ => wpAny_bind h₂) fun _ _ y => y))))))) fun _ _ y => y)
 have F₂ : Fits G env (wr ++ X) ρ [(da, .list done)] s₂ := F.more g hw
 have hdX : da ∈ X := (F.owns _ (List.mem_singleton.mpr rfl)).2
 have aw : ∀ b ∈ wr, ¬ Mut env [(da, .list [])] b ∧ G.H₀.get? b = none ∧ b ∉ X := fun b hb => ⟨(F.new_away (hw b hb).1).1, (F.new_away (hw b hb).1).2, fun q => by refine el11 (F.live b q) fun o e => ?_; rw [(hw b hb).1] at e; injection e⟩
 have afp : ∀ b ∈ fp, ¬ CT env da b := fun b hb z => by
  rcases hf b hb with q | ⟨q, ob, eo, l⟩
  ·exact (aw b q).1 z.mut
  ·exact (F.keeps g).look_away q eo l z.mut
 have key : ∀ (s₃ : Shared) , s₃ = s₂ → codeAny (model G.prog G.w) A (.compLoop (.ListComp elt [⟨target, iter, ifs, 0⟩, ⟨target', iter', ifs', 0⟩] scope pos) 1 it (.ref da) env) (fun r s' => match r with | .ok f => wpAny (model G.prog G.w) A k Q E s' | .error e => cameBackBy (model G.prog G.w) A env E e s') s₃ := by
  rintro s₃ rfl
  refine hl.go X (wr ++ X) A _ it fp wr St done _ R F₂ (fun a q => List.mem_append_right _ q) (fun a q => List.mem_append_left _ q) hdX (F.live.keeps g.heap) (hR A R.hd) h0 aw afp hsz fun s' F' e' k' => hk s' F' ?_
  exact ⟨g.same.trans e', fun b o hb e => k' b o hb (fun q => by rw [(hw b q).1] at e; injection e) (g.heap b o e)⟩
 exact wpAny_runOwn (compStart_any (g := ⟨target', iter', ifs', 0⟩) rfl rfl (key _ rfl) fun E' => (hR A R.hd).self _ 0 _ _ _ h0 (key _ rfl))
end
noncomputable def closN (cells : List (Str × Addr)) : List (Str × NameKind) → List (Str × Addr) → List (Str × Addr)
 | [], acc => acc
 | (x, k) :: r, acc => if k == .free then (match cells.lookup x with | some c => closN cells r ((x, c) :: acc) | none => closN cells r acc) else closN cells r acc
noncomputable def closOk (cells : List (Str × Addr)) (names : List (Str × NameKind)) : Bool := names.all fun p => p.2 != .free || (cells.lookup p.1).isSome
theorem closureFor_is {scope : Scope} {env : Env} (h : closOk env.cells scope.names = true) : closureFor scope env = pure (closN env.cells scope.names []) := by
 unfold closureFor
 have : ∀ (names : List (Str × NameKind)) (acc : List (Str × Addr)), closOk env.cells names = true →
   (forIn names acc fun (x : Str × NameKind) cs => (if x.2 == .free then do let __do_lift ← cellOf env x.1; pure (ForInStep.yield ((x.1, __do_lift) :: cs)) else pure (ForInStep.yield cs) : Sem _)) = pure (closN env.cells names acc) := by
  intro names
  induction names with
  | nil => intro acc _; rfl
  | cons p r ih =>
   intro acc h
   obtain ⟨x, k⟩ := p
   have h1 : (k != .free || (env.cells.lookup x).isSome) = true := (Bool.and_eq_true_iff.mp h).1
   have h2 : closOk env.cells r = true := (Bool.and_eq_true_iff.mp h).2
   simp only [List.forIn_cons, closN]
   cases hk : k == NameKind.free with
   | false => simp only [Bool.false_eq_true, if_false]; exact ih acc h2
   | true =>
    have hs : (env.cells.lookup x).isSome = true := by
     refine Or.elim (Bool.or_eq_true_iff.mp h1) (fun q => ?_) (fun q => ?_)
     ·rw [bne, hk] at q; injection q
     ·exact q
    refine el11 (Option.isSome_iff_exists.mp hs) fun c hc => ?_
    simp only [if_true, hc]
    have : cellOf env x = pure c := by unfold cellOf; rw [hc]
    rw [this]
    exact ih _ h2
 have h' := this scope.names [] h
 refine Eq.trans ?_ (congrArg (fun m => m >>= pure) h')
 rfl
set_option tactic.hygienic true in
theorem closN_get {cells : List (Str × Addr)} : ∀ {names : List (Str × NameKind)} {acc : List (Str × Addr)}, (∀ x c, acc.lookup x = some c → cells.lookup x = some c) → ∀ x c, (closN cells names acc).lookup x = some c → cells.lookup x = some c
 | [], acc, ha, x, c, h => ha x c h
 | (y, k) :: r, acc, ha, x, c, h => by
  unfold closN at h
  split at h
  ·split at h
   ·rename_i c' hc'
    refine closN_get (fun x c h => ?_) x c h
    rw [List.lookup_cons] at h
    cases hb : x == y with
    | true => rw [hb] at h; (injection h with y0; subst y0); rw [beq_iff_eq.mp hb]; exact hc'
    | false => rw [hb] at h; exact ha x c h
   ·exact closN_get ha x c h
  ·exact closN_get ha x c h
set_option tactic.hygienic true in
theorem closN_more {cells : List (Str × Addr)} : ∀ {names : List (Str × NameKind)} {acc : List (Str × Addr)} {x : Str} {c : Addr}, (∀ x c, acc.lookup x = some c → cells.lookup x = some c) → cells.lookup x = some c → (acc.lookup x = some c ∨ (x, NameKind.free) ∈ names) → (closN cells names acc).lookup x = some c
 | [], acc, x, c, ha, hc, h => by refine Or.elim h (fun h => ?_) (fun h => ?_) <;> first | exact h | cases h
 | (y, k) :: r, acc, x, c, ha, hc, h => by
  unfold closN
  split
  ·split
   ·rename_i c' hc'
    refine closN_more (fun x c h => ?_) hc ?_
    ·rw [List.lookup_cons] at h
     cases hb : x == y with
     | true => rw [hb] at h; (injection h with y0; subst y0); rw [beq_iff_eq.mp hb]; exact hc'
     | false => rw [hb] at h; exact ha x c h
    ·by_cases q : x = y
     ·subst q; rw [hc] at hc'; (injection hc' with y0; subst y0); exact .inl (by simp)
     ·refine Or.elim h (fun h => ?_) (fun h => ?_)
      ·left; rw [List.lookup_cons]; have : (x == y) = false := by simpa using q
       rw [this]; exact h
      ·refine Or.elim (List.mem_cons.mp h) (fun h => ?_) (fun h => ?_)
       ·(injection h with y0 y1; subst y0; subst y1); exact absurd rfl q
       ·exact .inr h
   ·rename_i hc'
    refine closN_more ha hc (h.imp id fun h => ?_)
    refine Or.elim (List.mem_cons.mp h) (fun h => ?_) (fun h => ?_)
    ·(injection h with y0 y1; subst y0; subst y1); rw [hc] at hc'; injection hc'
    ·exact h
  ·rename_i hk
   refine closN_more ha hc (h.imp id fun h => ?_)
   refine Or.elim (List.mem_cons.mp h) (fun h => ?_) (fun h => ?_)
   ·(injection h with y0 y1; subst y0; subst y1); simp at hk
   ·exact h
noncomputable def freeIn (scope : Scope) (env : Env) (x : Str) : Bool := scope.names.lookup x == some .free && env.kindOf x != some .local
inductive FSub (scope : Scope) (env : Env) : Loc → Loc → Prop
 | nil (ρ : Loc) : FSub scope env [] ρ
 | cons {x : Str} {d : D} {ρ' ρ : Loc} : ρ.lookup x = some d → freeIn scope env x = true → FSub scope env ρ' ρ → FSub scope env ((x, d) :: ρ') ρ
set_option tactic.hygienic true in
theorem FSub.get {scope : Scope} {env : Env} {ρ' ρ : Loc} (h : FSub scope env ρ' ρ) : ∀ x d, ρ'.lookup x = some d → ρ.lookup x = some d ∧ freeIn scope env x = true := by
 induction h with
 | nil ρ => intro x d e; injection e
 | cons h1 h2 _ ih =>
  intro x d e
  rw [List.lookup_cons] at e
  split at e
  ·rename_i hb; (injection e with y0; subst y0); rw [beq_iff_eq.mp hb]; exact ⟨h1, h2⟩
  ·exact ih x d e
theorem relabel_free {scope : Scope} {env : Env} {x : Str} (h : scope.names.lookup x = some .free) : (relabel scope env).names.lookup x = some .cell ∨ (relabel scope env).names.lookup x = some .free := by
 unfold relabel
 dsimp only
 revert h
 generalize scope.names = names
 induction names with
 | nil => intro h; injection h
 | cons p r ih =>
  obtain ⟨y, k⟩ := p
  intro h
  rw [List.lookup_cons] at h
  rw [List.map_cons]
  dsimp only
  by_cases hc : (k == NameKind.free && env.scope.kind == ScopeKind.function && env.kindOf y == some NameKind.cell) = true
  ·rw [if_pos hc, List.lookup_cons]
   cases hb : x == y with
   | true => exact .inl rfl
   | false => rw [hb] at h; exact ih h
  ·rw [if_neg hc, List.lookup_cons]
   cases hb : x == y with
   | true => rw [hb] at h; (injection h with y0; subst y0); exact .inr rfl
   | false => rw [hb] at h; exact ih h
noncomputable abbrev cenvOf (scope : Scope) (env : Env) (C : Addr) : Env := compEnvC scope (closN env.cells scope.names []) C env
section
variable {G : Gd} {n : Nat} {env : Env} {X : List Addr} {ρ : Loc} {ow : Own} {s : Shared}
theorem Fits.but (F : Fits G env X ρ ow s) {C : Addr} {h' : Heap} {tk : Nat} (hs : Heap.SameBut C s.heap h') (hl : ∀ o, s.heap.get? C = some o → ¬ look o) (hm : ¬ Mut env ow C) (hH : G.H₀.get? C = none) (hX : C ∉ X) : Fits G env X ρ ow { s with heap := h', toks := tk } := by
 have hsame : Same X s.heap h' := .of_but hs (.inr hl)
 have km : ∀ b o, Mut env ow b → s.heap.get? b = some o → h'.get? b = some o := fun b o q e => (hs.2 b fun z => hm (z ▸ q)).trans e
 refine ⟨fun b o e => (hs.2 b fun z => by rw [z, hH] at e; injection e).trans (F.base b o e), F.fn, F.gl, F.bl, ?_, fun n d e => ?_, fun p hp => ⟨?_, (F.owns p hp).2⟩, F.nd, fun a ha => ?_, F.apart, F.inj, fun y c e => ?_, F.sep⟩
 ·refine el11 F.ns fun m hm => ?_; exact ⟨m, hm.at' fun o e => km _ o (.inl rfl) e⟩
 ·cases F.vars n d e with
  | loc m v a b c r => exact .loc m v a (b.at' fun o e => km _ o (.inl rfl) e) c (r.mono hsame)
  | cell c v a b e' r => exact .cell c v a b (let ⟨o, ho, hd⟩ := e'; ⟨o, km c o (.inr (.inl ⟨n, b⟩)) ho, hd⟩) (r.mono hsame)
 ·exact (F.owns p hp).1.at (fun o e => km _ o (.inr (.inr (List.mem_map.mpr ⟨p, hp, rfl⟩))) e) hsame
 ·refine el11 (F.live a ha) fun o e => ?_; exact ⟨o, (hs.2 a fun z => hX (z ▸ ha)).trans e⟩
 ·refine el22 (F.cel y c e) fun v o ho hd => ?_; exact ⟨v, o, km c o (.inr (.inl ⟨y, e⟩)) ho, hd⟩
theorem Fits.comp (F : Fits G env X ρ ow s) {scope : Scope} {ρc : Loc} {D C : Addr} {s' : Shared} (g : Grow s s') (hf : FSub scope env ρc ρ) (hkind : scope.kind = .function) (hD : s.heap.get? D = none) (hC : s.heap.get? C = none) (hDC : D ≠ C) (hl : PL s'.heap D []) {m : Str → Option Value} (hn : s'.heap.Ns C m) :
  Fits G (cenvOf scope env C) (D :: X) ρc [(D, .list [])] s' := by
 have F' := F.more (wr := [D]) g fun b hb => by rw [List.mem_singleton.mp hb]; refine el11 hl fun k e => ?_; exact ⟨hD, _, e⟩
 have hcl : ∀ x c, (closN env.cells scope.names []).lookup x = some c → env.cells.lookup x = some c := fun x c e => closN_get (fun _ _ h => by injection h) x c e
 refine ⟨F'.base, hkind, F.gl, F.bl, ⟨m, hn⟩, fun x d e => ?_, fun p hp => ?_, by simp, F'.live, fun b o e q => ?_, fun n n' c h h' => F.inj n n' c (hcl n c h) (hcl n' c h'), fun y c e => F'.cel y c (hcl y c e), fun p hp => ?_⟩
 ·refine el02 (hf.get x d e) fun h1 h2 => ?_
  refine el02 (Bool.and_eq_true_iff.mp h2) fun h3 h4 => ?_
  have hfree : scope.names.lookup x = some .free := by simpa using h3
  have hnl : env.kindOf x ≠ some .local := by simpa using h4
  cases F'.vars x d h1 with
  | loc m v a b c r => exact absurd a hnl
  | cell c v a b e' r => exact .cell c v (relabel_free hfree) (closN_more (fun _ _ h => by injection h) b (.inr (mem_of_lookup hfree))) e' r
 ·rw [List.mem_singleton.mp hp]; exact ⟨⟨[], hl, .nil⟩, List.mem_cons_self ..⟩
 ·rcases q with q | ⟨n', q⟩ | q
  ·rw [show b = C from q] at e; exact absurd e (by rw [(F.new_away hC).2]; simp)
  ·exact F.apart b o e (.inr (.inl ⟨n', hcl n' b q⟩))
  ·simp only [List.map_cons, List.map_nil, List.mem_singleton] at q
   rw [q, (F.new_away hD).2] at e; injection e
 ·rw [List.mem_singleton.mp hp]
  exact ⟨hDC, fun n c hc q => (F.new_away hD).1 (.inr (.inl ⟨n, by rw [show D = c from q]; exact hcl n c hc⟩))⟩
theorem comp_any {A : Around} {E : Value → Shared → Prop} {ρc : Loc} {target iter elt : Expr} {ifs : List Expr} {gs : List Comprehension} {scope : Scope} {pos p : Pos} {ds out : List D} {use : Option (Value → Sem Unit)} {Q : Value → Shared → Prop} (R : Room n A) (F : Fits G env X ρ ow s)
  (hs : Src G n env ρ ow target iter ds) (hfold : ∀ x, foldedSetIterable iter env x = pure x) (hcl : closOk env.cells scope.names = true) (hkind : scope.kind = .function) (hnames : ∀ x ∈ scope.names, x.2 = .local → scope.names.lookup x.1 = some .local) (hcell : ∀ y ∈ scope.names, y.2 ≠ .cell)
  (hf : FSub scope env ρc ρ) (hL : ∀ C D, Loops G n (cenvOf scope env C) D ρc (.ListComp elt (⟨target, iter, ifs, 0⟩ :: gs) scope pos) 0 target ds out) (hsz : out.length ≤ sizeLine)
  (h : ∀ D C s' m, Fits G env X ρ ow s' → Grow s s' → Rep X s'.heap (.ref D) (.list out) → s.heap.get? C = none → s'.heap.Ns C m → compPost (model G.prog G.w) A E use Q (.ref D) C (.ok .next) s') :
  wpAny (model G.prog G.w) A (comprehension (.ListComp elt (⟨target, iter, ifs, 0⟩ :: gs) scope pos) scope env p (newList []) false (eval iter env) use) Q E s := by
 refine wpAny_comprehension_free rfl hfold (closureFor_is hcl) hkind hnames (hs.go X A s _ E R F fun it fp wr St s₂ hR h0 g hw hf' => ?_)
 refine wpAny_newObj_type (wpAny_newFunctionEnv hcell (by intro y hy; simp at hy) (fun h₁ hns₁ hsb₁ => ?_) hkind)
 dsimp only at hns₁ hsb₁ ⊢
 generalize hH2 : s₂.heap.push { cls := .type "list", dict := none, data := .seq ([] : List Value).toArray } = H2 at hns₁ hsb₁ ⊢
 have hC : H2.objs.size = s₂.heap.objs.size + 1 := by rw [← hH2, Heap.size_push]
 have hDC : s₂.heap.objs.size ≠ H2.objs.size := by rw [hC]; exact Nat.ne_of_lt (Nat.lt_succ_self _)
 have old : ∀ b o, s₂.heap.get? b = some o → h₁.get? b = some o := fun b o e => hsb₁.extBut b o (by rw [hC]; exact Nat.ne_of_lt (Nat.lt_succ_of_lt (Heap.lt_size e))) (Heap.get?_push_of_some _ (hH2 ▸ Heap.get?_push_of_some _ e))
 have hacc : PL h₁ s₂.heap.objs.size [] := ⟨_, hsb₁.extBut _ _ hDC (Heap.get?_push_of_some _ (hH2 ▸ Heap.get?_push_size _ rfl))⟩
 have none2 : ∀ a, s₂.heap.objs.size ≤ a → s₂.heap.get? a = none := fun a ha => by
  cases e : s₂.heap.get? a with
  | none => rfl
  | some o' => exact absurd (Heap.lt_size e) (Nat.not_lt.mpr ha)
 have none0 : ∀ a, s₂.heap.get? a = none → s.heap.get? a = none := fun a ha => by
  cases e : s.heap.get? a with
  | none => rfl
  | some o' => rw [g.heap a o' e] at ha; injection ha
 have hD2 := none2 _ (Nat.le_refl _)
 have hC2 := none2 H2.objs.size (by rw [hC]; exact Nat.le_succ _)
 generalize hD : s₂.heap.objs.size = D at *
 generalize hCC : H2.objs.size = C at *
 have F₂ : Fits G env (wr ++ X) ρ ow s₂ := F.more g hw
 have key : ∀ s₃ : Shared, s₃ = { s₂ with heap := h₁, toks := s₂.toks + ([] : List (Str × Value)).length } →
   codeAny (model G.prog G.w) A (.compLoop (.ListComp elt (⟨target, iter, ifs, 0⟩ :: gs) scope pos) 0 it (.ref D) (cenvOf scope env C)) (compPost (model G.prog G.w) A E use Q (.ref D) C) s₃ := by
  intro s₃ hs₃
  have g₃ : Grow s₂ s₃ := by rw [hs₃]; exact .of old
  have hl₃ : PL s₃.heap D [] := by rw [hs₃]; exact hacc
  have hn₃ : s₃.heap.Ns C (fun x => ([] : List (Str × Value)).reverse.lookup x) := by rw [hs₃]; exact hns₁
  have Fc := F₂.comp g₃ hf hkind hD2 hC2 hDC hl₃ hn₃
  have R' := hR A R.hd
  have st₂ : St (D :: (wr ++ X)) 0 s₂.heap := R'.lift _ _ _ _ h0 hD2
  have st₃ : St (D :: (wr ++ X)) 0 s₃.heap := R'.frame _ _ _ _ st₂ (fun b _ o e => g₃.heap b o e) fun b o _ _ e => g₃.heap b o e
  have awc : ∀ b ∈ wr, ¬ Mut (cenvOf scope env C) [(D, .list [])] b ∧ G.H₀.get? b = none ∧ b ∉ D :: X := fun b hb => by
   have h1 := F.new_away (hw b hb).1
   refine el11 ((hw b hb).2) fun ob eb => ?_
   have hbD : b ≠ D := fun q => by rw [q, hD2] at eb; injection eb
   have hbC : b ≠ C := fun q => by rw [q, hC2] at eb; injection eb
   refine ⟨fun q => ?_, h1.2, fun q => ?_⟩
   ·rcases q with q | ⟨n', q⟩ | q
    ·exact hbC q
    ·exact h1.1 (.inr (.inl ⟨n', closN_get (fun _ _ h => by injection h) n' b q⟩))
    ·exact hbD (List.mem_singleton.mp q)
   ·refine Or.elim (List.mem_cons.mp q) (fun q => ?_) (fun q => ?_)
    ·exact hbD q
    ·refine el11 (F.live b q) fun o e => ?_; rw [(hw b hb).1] at e; injection e
  have afp : ∀ b ∈ fp, ¬ CT (cenvOf scope env C) D b := fun b hb z => by
   rcases hf' b hb with q | ⟨q, ob, eo, l⟩
   ·exact (awc b q).1 z.mut
   ·refine Or.elim z (fun z => ?_) (fun z => ?_)
    ·rw [show b = C from z, hC2] at eo; injection eo
    ·rw [z, hD2] at eo; injection eo
  refine (hL C D).go (D :: X) (D :: (wr ++ X)) A s₃ it fp wr St [] _ R Fc (fun a q => ?_) (fun b hb => List.mem_cons_of_mem _ (List.mem_append_left _ hb)) (List.mem_cons_self ..) (fun a q => ?_) R' st₃ awc afp (by simpa using hsz) fun s₄ F₄ e₄ k₄ => ?_
  ·refine Or.elim (List.mem_cons.mp q) (fun q => ?_) (fun q => ?_)
   ·exact q ▸ List.mem_cons_self ..
   ·exact List.mem_cons_of_mem _ (List.mem_append_right _ q)
  ·exact Fc.live a (by
    refine Or.elim (List.mem_cons.mp q) (fun q => ?_) (fun q => ?_)
    ·exact q ▸ List.mem_cons_self ..
    ·exact List.mem_cons_of_mem _ (List.mem_append_right _ q))
  ·have up : ∀ b o, s.heap.get? b = some o → s₄.heap.get? b = some o := fun b o e => by
    have e2 := g.heap b o e
    refine k₄ b o (fun z => ?_) (fun q => by rw [(hw b q).1] at e; injection e) (g₃.heap b o e2)
    refine Or.elim z (fun z => ?_) (fun z => ?_)
    ·rw [show b = C from z, hC2] at e2; injection e2
    ·rw [z, hD2] at e2; injection e2
   have gg : Grow s s₄ := ⟨g.same.trans (by subst hs₃; exact ⟨e₄.os, e₄.bare⟩), up⟩
   refine el11 F₄.ns fun m hm => ?_
   refine el12 ((F₄.owns _ (List.mem_singleton.mpr rfl)).1) fun vs hlD ra => ?_
   refine h D C s₄ m (F.keeps gg) gg (.list hlD (fun q => ?_) (ra.sub fun a q => List.mem_cons_of_mem _ q)) (none0 _ hC2) hm
   refine el11 (F.live D q) fun o e => ?_
   rw [none0 _ hD2] at e; injection e
 exact codeAny_compStart_list (key _ rfl) ((hR A R.hd).self (wr ++ X) 0 _ _ _ ((hR A R.hd).frame _ _ _ _ h0 (fun b _ o e => old b o e) fun b o _ _ e => old b o e) (key _ rfl))
theorem ev_comp {ρc : Loc} {target iter elt : Expr} {ifs : List Expr} {gs : List Comprehension} {scope : Scope} {pos : Pos} {ds out : List D} (hs : Src G n env ρ ow target iter ds) (hfold : ∀ x, foldedSetIterable iter env x = pure x)
  (hcl : closOk env.cells scope.names = true) (hkind : scope.kind = .function) (hnames : ∀ x ∈ scope.names, x.2 = .local → scope.names.lookup x.1 = some .local) (hcell : ∀ y ∈ scope.names, y.2 ≠ .cell)
  (hf : FSub scope env ρc ρ) (hL : ∀ C D, Loops G n (cenvOf scope env C) D ρc (.ListComp elt (⟨target, iter, ifs, 0⟩ :: gs) scope pos) 0 target ds out) (hsz : out.length ≤ sizeLine) :
  Ev G n env ρ ow (.ListComp elt (⟨target, iter, ifs, 0⟩ :: gs) scope pos) (.list out) := .mk fun X A s E R F => by
 rw [eval_ListComp]
 refine comp_any (use := none) R F hs hfold hcl hkind hnames hcell hf hL hsz fun D C s' m F' g r hC hn => ⟨m, hn, fun h' hs' => ?_⟩
 have hl := ns_look hn
 have hm : Same X s'.heap h' := .of_but hs' (.inr hl)
 exact ⟨r.mono hm, g.same.trans .of, fun b o e => (hs'.2 b fun q => by rw [q, hC] at e; injection e).trans (g.heap b o e)⟩
theorem ex_comp {x : Str} {px spos : Pos} {rest : List Stmt} {bs : List (List Stmt)} {o : Out} {ρc : Loc} {target iter elt : Expr} {ifs : List Expr} {gs : List Comprehension} {scope : Scope} {pos : Pos} {ds out : List D} (hk : storable env x = true) (hsw : swapsWith (.ListComp elt (⟨target, iter, ifs, 0⟩ :: gs) scope pos) (some (.Name x px)) spos.line env = pure true) (hs : Src G n env ρ ow target iter ds) (hfold : ∀ x, foldedSetIterable iter env x = pure x)
  (hcl : closOk env.cells scope.names = true) (hkind : scope.kind = .function) (hnames : ∀ x ∈ scope.names, x.2 = .local → scope.names.lookup x.1 = some .local) (hcell : ∀ y ∈ scope.names, y.2 ≠ .cell)
  (hf : FSub scope env ρc ρ) (hL : ∀ C D, Loops G n (cenvOf scope env C) D ρc (.ListComp elt (⟨target, iter, ifs, 0⟩ :: gs) scope pos) 0 target ds out) (hsz : out.length ≤ sizeLine)
  (h : Ex G n env ((x, .list out) :: ρ) ow (rest :: bs) o) :
  Ex G n env ρ ow ((.Assign [.Name x px] (.ListComp elt (⟨target, iter, ifs, 0⟩ :: gs) scope pos) spos :: rest) :: bs) o := .mk fun X A s E R B F => by
 refine wpAny_execs_cons ?_
 rw [exec_Assign_Name_used _ _ _ _ hsw]
 refine wpAny_bind (wpAny_standAt (wpAny_bind ?_))
 refine wpAny_bind (wpAny_mono (comp_any (use := some (assign (.Name x px) env)) (Q := fun _ s' => seqP (model G.prog G.w) A env E (rest :: bs) (ExQ G env ow o s) .next s') R F hs hfold hcl hkind hnames hcell hf hL hsz fun D C s' m F' g r hC hn => ?_) (fun _ s' hq => wpAny_pure (wpAny_pure hq)) fun _ _ y => y)
 refine wpAny_assign_Name (store_any hk F' r fun h₁ t₁ F₁ T₁ k₁ => ?_)
 have away := F.new_away hC
 have hne : C ≠ env.locals := fun q => away.1 (.inl q)
 refine el32 (id hn) fun oc _ _ hoc _ => ?_
 have hn₁ : h₁.Ns C m := hn.at' fun o e => k₁ C o hne (fun _ c hc q => away.1 (.inr (.inl ⟨x, q ▸ hc⟩))) e
 refine ⟨m, hn₁, fun h' hs' => ?_⟩
 have hCX : C ∉ X := fun q => by refine el11 (F.live C q) fun o e => ?_; rw [hC] at e; injection e
 have F₂ : Fits G env X ((x, .list out) :: ρ) ow { s' with heap := h', toks := t₁ } := F₁.but (tk := t₁) hs' (ns_look hn₁) away.1 away.2 hCX
 refine h.from' R B F₂ ?_
 have tt := g.turn.trans T₁
 exact ⟨tt.same.trans .of, fun b o hb e => (hs'.2 b fun q => by rw [q, hC] at e; injection e).trans (tt.heap b o hb e)⟩
end
end
section
noncomputable abbrev tx (l : List Nat) : Str := ⟨l.toArray⟩
theorem tx_len (l : List Nat) : (tx l).length = l.length := by simp [Str.length]
noncomputable def idxs (c : Nat) (l : List Nat) : List Nat := (List.range (l.length + 1)).filter fun i => l[i]? == some c
theorem occ_go (x : Str) (c hi limit : Nat) (hx : hi ≤ x.length) : ∀ (L : List Nat) (st : Array Nat × Nat), L.Pairwise (· < ·) → (∀ i ∈ L, st.snd ≤ i) →
  (forIn L st (StrLaws.occBody x ⟨#[c]⟩ hi limit)).run.fst.toList = st.fst.toList ++ (L.filter fun i => decide (i < hi) && x.cps.toList[i]? == some c).take (limit - st.fst.size)
 | [], st, _, _ => by simp
 | a :: L, st, hp, hf => by
  have hp' := List.pairwise_cons.mp hp
  have ha := hf a (List.mem_cons_self ..)
  have one : (a + (⟨#[c]⟩ : Str).length ≤ hi ∧ Builtin.Str.subAt x ⟨#[c]⟩ a = true) ↔ (decide (a < hi) && x.cps.toList[a]? == some c) = true := by
   rw [Bool.and_eq_true, decide_eq_true_iff, beq_iff_eq, ← StrLaws.subAt_one x c a]
   exact ⟨fun h => ⟨h.1, Nat.le_trans h.1 hx, h.2⟩, fun h => ⟨h.1, h.2.2⟩⟩
  rw [List.forIn_cons, List.filter_cons]
  unfold StrLaws.occBody
  by_cases hc : (decide (a < hi) && x.cps.toList[a]? == some c) = true
  ·have hc' := one.mpr hc
   rw [if_pos hc]
   by_cases hs : st.fst.size < limit
   ·rw [if_pos ⟨⟨⟨hs, ha⟩, hc'.1⟩, hc'.2⟩]
    have ih := occ_go x c hi limit hx L (st.fst.push a, a + (⟨#[c]⟩ : Str).length) hp'.2 fun i hi' => hp'.1 i hi'
    refine Eq.trans ih ?_
    have e : limit - st.fst.size = (limit - (st.fst.push a).size) + 1 := by rw [Array.size_push]; omega
    rw [e, List.take_succ_cons, Array.toList_push, List.append_assoc]; rfl
   ·rw [if_neg (fun h => hs h.1.1.1)]
    refine Eq.trans (occ_go x c hi limit hx L st hp'.2 fun i hi' => hf i (List.mem_cons_of_mem _ hi')) ?_
    rw [Nat.sub_eq_zero_of_le (Nat.not_lt.mp hs), List.take_zero, List.take_zero]
  ·rw [if_neg hc, if_neg (fun h => hc (one.mp ⟨h.1.2, h.2⟩))]
   exact occ_go x c hi limit hx L st hp'.2 fun i hi' => hf i (List.mem_cons_of_mem _ hi')
theorem occ_from (l : List Nat) (c lo hi limit : Nat) (hx : hi ≤ l.length) : Builtin.Str.occurrences (tx l) (tx [c]) lo hi limit = ((List.range' lo (hi + 1 - lo)).filter fun i => decide (i < hi) && l[i]? == some c).take limit := by
 rw [StrLaws.occ_eq]
 exact occ_go (tx l) c hi limit (by rw [tx_len]; exact hx) (List.range' lo (hi + 1 - lo)) (#[], lo) List.pairwise_lt_range' fun i h => (List.mem_range'_1.mp h).1
theorem occ_one (l : List Nat) (c limit : Nat) : Builtin.Str.occurrences (tx l) (tx [c]) 0 (tx l).length limit = (idxs c l).take limit := by
 rw [tx_len, occ_from l c 0 l.length limit (Nat.le_refl _), ← List.range_eq_range', idxs, Nat.sub_zero]
 congr 1
 refine List.filter_congr fun i _ => ?_
 by_cases h : i < l.length
 ·rw [decide_eq_true h]; rfl
 ·rw [decide_eq_false h, List.getElem?_eq_none (Nat.not_lt.mp h)]; rfl
theorem occ_first {l : List Nat} {c lo hi i : Nat} (hx : hi ≤ l.length) (h1 : lo ≤ i) (h2 : i < hi) (h3 : l[i]? = some c) (hno : ∀ j, lo ≤ j → j < i → l[j]? ≠ some c) : Builtin.Str.occurrences (tx l) (tx [c]) lo hi 1 = [i] := by
 rw [occ_from l c lo hi 1 hx, show hi + 1 - lo = (i - lo) + ((hi - i) + 1) by omega, ← List.range'_append_1, List.filter_append, List.filter_eq_nil_iff.mpr fun j hj => ?_, show lo + (i - lo) = i by omega, List.range'_succ, List.filter_cons, if_pos (by rw [decide_eq_true h2, h3]; exact beq_self_eq_true _)]
 ·rfl
 ·have := List.mem_range'_1.mp hj
  rw [Bool.and_eq_true, beq_iff_eq]
  exact fun h => hno j this.1 (by omega) h.2
theorem occ_none {l : List Nat} {c lo hi limit : Nat} (hx : hi ≤ l.length) (hno : ∀ j, lo ≤ j → j < hi → l[j]? ≠ some c) : Builtin.Str.occurrences (tx l) (tx [c]) lo hi limit = [] := by
 rw [occ_from l c lo hi limit hx, List.filter_eq_nil_iff.mpr fun j hj => ?_]
 ·exact List.take_nil
 ·rw [Bool.and_eq_true, beq_iff_eq, decide_eq_true_iff]
  exact fun h => hno j (List.mem_range'_1.mp hj).1 h.1 h.2
theorem idxs_length (c : Nat) (l : List Nat) : (idxs c l).length = l.count c := by
 unfold idxs
 rw [List.range_succ, List.filter_append]
 have h0 : List.filter (fun i => l[i]? == some c) [l.length] = [] := by simp
 rw [h0, List.append_nil]
 induction l with
 | nil => rfl
 | cons a l ih =>
  rw [List.length_cons, List.range_succ_eq_map, List.filter_cons, List.filter_map, List.count_cons]
  have e : (List.filter ((fun i => (a :: l)[i]? == some c) ∘ Nat.succ) (List.range l.length)).length = l.count c := by
   rw [← ih (by simp)]
   congr 1
  by_cases h : a = c
  ·rw [if_pos (by simp [h]), List.length_cons, List.length_map, e]; simp [h]
  ·rw [if_neg (by simp [h]), List.length_map, e]; simp [h]
noncomputable def dints (ns : List Int) : List D := ns.map .int
noncomputable def dstrs (ls : List (List Nat)) : List D := ls.map .str
theorem ints_are {X : List Addr} {h : Heap} : ∀ {ns : List Int} {vs : List Value}, RepAll X h vs (dints ns) → IntsAre vs ns
 | [], _, .nil => .nil
 | n :: ns, _, .cons r ra => by refine Rep.eInt r fun _ => ?_; exact .cons n _ (ints_are ra)
theorem ints_rep {X : List Addr} {h : Heap} : ∀ {ns : List Int} {vs : List Value}, IntsAre vs ns → RepAll X h vs (dints ns)
 | _, _, .nil => .nil
 | _, _, .cons n t r => .cons (.int n t) (ints_rep r)
theorem strs_are {X : List Addr} {h : Heap} : ∀ {ls : List (List Nat)} {vs : List Value}, RepAll X h vs (dstrs ls) → ∃ ps : List (Str × Tok), vs = strValues ps ∧ ps.map (·.1) = ls.map tx
 | [], _, .nil => ⟨[], rfl, rfl⟩
 | l :: ls, _, .cons r ra => by
  refine Rep.eStr r fun _ => ?_
  refine el12 (strs_are ra) fun ps y0 => ?_; subst y0; intro e
  exact ⟨(tx l, _) :: ps, rfl, by simp [e]⟩
noncomputable def joinL (sep : List Nat) : List (List Nat) → List Nat
 | [] => []
 | p :: ps => p ++ ps.flatMap fun q => sep ++ q
theorem glued_go (sep : List Nat) : ∀ (ps : List (List Nat)) (acc : List Nat), (ps.map tx).foldl (fun (acc : Array Nat) (p : Str) => acc ++ (tx sep).cps ++ p.cps) acc.toArray = (acc ++ ps.flatMap fun q => sep ++ q).toArray
 | [], acc => by simp
 | p :: ps, acc => by
  rw [List.map_cons, List.foldl_cons]
  have e : acc.toArray ++ (tx sep).cps ++ (tx p).cps = (acc ++ (sep ++ p)).toArray := by simp
  rw [e, glued_go sep ps]
  simp
theorem join_tx (sep : List Nat) (ps : List (List Nat)) : Txt.join (tx sep) (ps.map tx) = tx (joinL sep ps) := by
 cases ps with
 | nil => rfl
 | cons p ps =>
  show Builtin.Str.glued _ _ = _
  unfold Builtin.Str.glued
  rw [List.map_cons, List.drop_succ_cons, List.drop_zero, List.headD_cons, glued_go]
  rfl
theorem fold_len (sep : Str) : ∀ (ps : List (List Nat)) (n : Nat), (ps.map tx).foldl (fun x1 x2 => x1 + x2.length + sep.length) n = n + (ps.map fun p => p.length + sep.length).sum
 | [], n => by simp
 | p :: ps, n => by
  rw [List.map_cons, List.foldl_cons, fold_len sep ps, List.map_cons, List.sum_cons, tx_len]; omega
theorem join_ok (sep : List Nat) (ps : List (List Nat)) (h : (ps.map fun p => p.length + sep.length).sum ≤ sizeLine) : JoinOk (tx sep) (ps.map tx) = true := by
 unfold JoinOk Builtin.Str.tooLong
 rw [List.foldl_toArray', fold_len] <;> try rfl
 simp only [Nat.zero_add, tx_len]
 simp; omega
theorem RepAll.one {X : List Addr} {h : Heap} {vs : List Value} {d : D} (r : RepAll X h vs [d]) : ∃ v, vs = [v] ∧ Rep X h v d := by
 refine RepAll.eCons r fun r ra => ?_
 refine RepAll.eNil ra ?_
 exact ⟨_, rfl, r⟩
theorem RepAll.two {X : List Addr} {h : Heap} {vs : List Value} {d d' : D} (r : RepAll X h vs [d, d']) : ∃ v v', vs = [v, v'] ∧ Rep X h v d ∧ Rep X h v' d' := by
 refine RepAll.eCons r fun r ra => ?_
 refine el12 ra.one fun v' y0 => ?_; subst y0; intro r'
 exact ⟨_, _, rfl, r, r'⟩
theorem RepAll.three {X : List Addr} {h : Heap} {vs : List Value} {d d' d'' : D} (r : RepAll X h vs [d, d', d'']) : ∃ v v' v'', vs = [v, v', v''] ∧ Rep X h v d ∧ Rep X h v' d' ∧ Rep X h v'' d'' := by
 refine RepAll.eCons r fun r ra => ?_
 refine el23 ra.two fun v' v'' y0 => ?_; subst y0; intro r' r''
 exact ⟨_, _, _, rfl, r, r', r''⟩
section
variable {G : Gd} {n : Nat}
theorem fn_len_str {l : List Nat} (h : l.length < 2 ^ 63) : FnIs G n (.builtin "len") [.str l] (.int l.length) := .mk fun X A s E vs R hb hX ra => by
 refine el12 ra.one fun _ y0 => ?_; subst y0; intro r
 refine Rep.eStr r fun _ => ?_
 refine PyProof.Rows.len_str (by rw [tx_len]; omega) ?_
 rw [tx_len]; exact ⟨.int _ _, .toks _ _⟩
theorem fn_len_list {ds : List D} (h : ds.length < 2 ^ 63) : FnIs G n (.builtin "len") [.list ds] (.int ds.length) := .mk fun X A s E vs R hb hX ra => by
 refine el12 ra.one fun _ y0 => ?_; subst y0; intro r
 refine Rep.eList r fun hl hf ra => ?_
 refine PyProof.Rows.len_list hl.isList (by rw [List.size_toArray, ra.length]; omega) ?_
 rw [List.size_toArray, ra.length]; exact ⟨.int _ _, .toks _ _⟩
theorem fn_range1 {m : Int} : FnIs G n (.type "range") [.int m] (.rng 0 m) := .mk fun X A s E vs R hb hX ra => by
 refine el12 ra.one fun _ y0 => ?_; subst y0; intro r
 refine Rep.eInt r fun _ => ?_
 exact call_range_1 ⟨.rng (Heap.get?_push_size _ rfl) hX.new, .push _ _ _⟩
theorem fn_join {sep : List Nat} {ps : List (List Nat)} (h : (ps.map fun p => p.length + sep.length).sum ≤ sizeLine) : FnIs G n (.builtin "str.join") [.str sep, .list (dstrs ps)] (.str (joinL sep ps)) := .mk fun X A s E vs R hb hX ra => by
 refine el23 ra.two fun _ _ y0 => ?_; subst y0; intro r r'
 refine Rep.eStr r fun _ => ?_
 refine Rep.eList r' fun hl hf ra => ?_
 refine el12 (strs_are ra) fun qs y0 => ?_; subst y0; intro e
 refine SC.join (texts := ps.map tx) hl.isList e (join_ok sep ps h) fun t' k => ?_
 rw [join_tx]; exact ⟨.str _ _, .toks _ _⟩
theorem fn_count {l : List Nat} {c : Nat} : FnIs G n (.builtin "str.count") [.str l, .str [c]] (.int (l.count c)) := .mk fun X A s E vs R hb hX ra => by
 refine el23 ra.two fun _ _ y0 => ?_; subst y0; intro r r'
 refine Rep.eStr r fun _ => ?_; refine Rep.eStr r' fun _ => ?_
 refine SC.count ?_
 have : Txt.count (tx l) (tx [c]) = (l.count c : Nat) := by
  unfold Txt.count
  rw [occ_one, List.length_take, idxs_length, tx_len]
  have := List.count_le_length (a := c) (l := l)
  omega
 rw [this]; exact ⟨.int _ _, .toks _ _⟩
theorem fn_index {l : List Nat} {c i : Nat} {r : List Nat} (h : idxs c l = i :: r) : FnIs G n (.builtin "str.index") [.str l, .str [c]] (.int i) := .mk fun X A s E vs R hb hX ra => by
 refine el23 ra.two fun _ _ y0 => ?_; subst y0; intro r r'
 refine Rep.eStr r fun _ => ?_; refine Rep.eStr r' fun _ => ?_
 exact SC.index (i := i) (rest := []) (by rw [occ_one, h]; rfl) ⟨.int _ _, .toks _ _⟩
theorem fn_replace_none {l : List Nat} {c : Nat} {z : List Nat} (h : c ∉ l) : FnIs G n (.builtin "str.replace") [.str l, .str [c], .str z] (.str l) := .mk fun X A s E vs R hb hX ra => by
 refine el34 ra.three fun _ _ _ y0 => ?_; subst y0; intro r r' r''
 refine Rep.eStr r fun t => ?_
 refine Rep.eStr r' fun u => ?_
 refine Rep.eStr r'' fun v => ?_
 have h0 : Builtin.Str.occurrences (tx l) (tx [c]) 0 (tx l).length ((tx l).length + 1) = [] := by
  rw [occ_one]
  have : (idxs c l) = [] := List.length_eq_zero_iff.mp (by rw [idxs_length]; exact List.count_eq_zero.mpr h)
  rw [this]; rfl
 have hg := gives_str_replace (tx l) (tx [c]) (tx z) t u v (fun q => by rw [h0] at q; injection q)
 rw [h0] at hg
 exact call_gives F.slot_str_replace (typeIs_str _ _ _) F.entry_str_replace (F.args_str_replace_3 _ _ _) hg ⟨.str _ _, .refl _⟩
theorem fn_int_int {i : Int} : FnIs G n (.type "int") [.int i] (.int i) := .mk fun X A s E vs R hb hX ra => by
 refine el12 ra.one fun _ y0 => ?_; subst y0; intro r
 refine Rep.eInt r fun _ => ?_
 exact call_int_int ⟨.int _ _, .refl _⟩
theorem fn_bytes {ns : List Int} (h : ∀ m ∈ ns, 0 ≤ m ∧ m < 256) (hl : ns.length ≤ sizeLine) : FnIs G n (.type "bytes") [.list (dints ns)] (.bytes (ns.map fun m => m.toNat.toUInt8)) := .mk fun X A s E vs R hb hX ra => by
 refine el12 ra.one fun _ y0 => ?_; subst y0; intro r
 refine Rep.eList r fun hl' hf ra => ?_
 have hi := ints_are ra
 exact call_bytes_ints hl'.isList hi h (by rw [hi.length]; exact hl) R.hd fun h' t k hk => ⟨.bytes _ _, .of hk⟩
end
end
section
theorem none_at {h : Heap} {a : Addr} (k : h.objs.size ≤ a) : h.get? a = none := by
 cases e : h.get? a with
 | none => rfl
 | some o => exact absurd (Heap.lt_size e) (Nat.not_lt.mpr k)
theorem Run.of_walksT {prog : Program} {w : World} {A : Around} {I : Addr} {fp wr : List Addr} {ds : List D} {Pt : Nat → Array Value → Prop} {St : Nat → Heap → Prop} {Mid : Nat → Addr → Heap → Prop} {n : Nat} {St' : List Addr → Heap → Prop} {elts : List Expr} {k : Nat} {tp : Pos}
  (W : WalksT prog w A I fp wr n Pt St Mid) (hn : n = ds.length)
  (hT : ∀ i h, St i h → ∀ b ∈ wr, ∃ o, h.get? b = some o)
  (hmono : ∀ X h h', St' X h → (∀ b ∈ fp, ∀ o, h.get? b = some o → h'.get? b = some o) → Same X h h' → St' X h')
  (hlift : ∀ X h a, St' X h → h.get? a = none → St' (a :: X) h)
  (hrep : ∀ X i d vals h, ds[i]? = some d → Pt i vals → St' X h → ∃ es, d = .tup es ∧ RepAll X h vals.toList es)
  (hSt' : ∀ X h h', (∀ b ∈ wr, b ∈ X) → St' X h → (∀ b o, b ∉ wr → h.get? b = some o → h'.get? b = some o) → St' X h') :
  Run prog w A (.Tuple elts k tp) (.ref I) fp wr ds (fun X i h => St i h ∧ St' X h) where
 sub := W.sub
 frame := fun X i h h' st hk hs => ⟨W.frame i h h' st.1 hk, hmono X h h' st.2 hk hs⟩
 lift := fun X i h a st ha => ⟨st.1, hlift X h a st.2 ha⟩
 item := fun X i d s Q E hw hd st hL hQ => by
  have hlt : i < n := by rw [hn]; exact (List.getElem?_eq_some_iff.mp hd).1
  refine W.item i s _ _ hlt st.1 fun T vals h' tk hP hTl hTup hMid hk => ⟨.ref T, rfl, ?_⟩
  have s1 := hSt' X _ _ hw st.2 hk
  refine W.go elts k tp i T _ _ _ hMid fun h'' st'' hk'' => ?_
  have s2 := hSt' X _ _ hw s1 hk''
  refine el12 (hrep X i d vals h'' hd hP s2) fun es y0 => ?_; subst y0; intro ra
  have hTX : T ∉ X := fun q => by refine el11 (hL T q) fun o e => ?_; exact absurd (Heap.lt_size e) (Nat.not_lt.mpr hTl)
  obtain ⟨oT, hoT, hcT, kT, hdT⟩ := hTup
  have hTup' : IsTup h'' T vals.toList.toArray := ⟨oT, hk'' T oT (W.apart i T _ hMid) hoT, hcT, kT, by rw [hdT]⟩
  exact hQ (.ref T) h'' tk (.tup hTup' hTX ra) ⟨st'', s2⟩ (fun b o hb e => hk'' b o hb (hk b o hb e)) (hT _ _ st'')
 done := fun X s Q E st hQ => by
  have e : St n s.heap := hn ▸ st.1
  exact W.done s _ _ e hQ
 self := fun X i s Q E st h => W.self i s Q E st.1 h
structure MkIter (T : String) (args : List D) (target : Expr) (ds : List D) : Prop where
 go : ∀ (prog : Program) (w : World) (X : List Addr) (A : Around) (s : Shared) (Q : Value → Shared → Prop) (E : Value → Shared → Prop) (vs : List Value), A.handled = none → Live X s.heap → RepAll X s.heap vs args →
  (∀ it fp wr St h' tk, (∀ A' : Around, A'.handled = none → Run prog w A' target it fp wr ds St) → St (wr ++ X) 0 h' → (∀ b o, s.heap.get? b = some o → h'.get? b = some o) →
   (∀ b ∈ wr, s.heap.get? b = none ∧ ∃ o, h'.get? b = some o) → (∀ b ∈ fp, b ∈ wr ∨ (b ∉ X ∧ ∃ o, h'.get? b = some o ∧ look o)) → Q it { s with heap := h', toks := tk }) →
  wpAny (model prog w) A (call (.type T) vs) (fun x s₁ => wpAny (model prog w) A (pyIter x) Q E s₁) E s
section
variable {G : Gd} {n : Nat} {env : Env} {ρ : Loc} {ow : Own}
theorem src_mk {target fe e : Expr} {es : List Expr} {pos : Pos} {T : String} {args ds : List D} (hattr : notAttr fe = true) (hs : noStar (e :: es) = true) (hf : Ev G n env ρ ow fe (.raw (.type T))) (ha : EvAll G n env ρ ow (e :: es) args) (h : MkIter T args target ds) :
  Src G n env ρ ow target (.Call fe (e :: es) [] pos) ds := .mk fun X A s Q E R F hQ => by
 refine Call_ (wpAny_mono (hf.go X A s E R F) (fun v s₁ q => ?_) fun _ _ x => x) (call_eq hattr)
 obtain ⟨q, g⟩ := q
 refine Rep.eRaw q ?_
 have F₁ := F.keeps g
 refine callWith_type1 (wpAny_mono (ha.go pos X A s₁ E R F₁) (fun vs s₂ q₂ => ?_) fun _ _ x => x) (starEach_cons hs) (backTo_any (noStar_tail hs))
 have g₂ := g.trans q₂.2
 refine h.go _ _ X A s₂ Q E _ R.hd (F.keeps g₂).live q₂.1 fun it fp wr St h' tk hR h0 hk hw hf => ?_
 refine hQ it fp wr St _ hR h0 (g₂.trans (.of hk)) (fun b hb => ⟨?_, (hw b hb).2⟩) hf
 cases e : s.heap.get? b with
 | none => rfl
 | some o => have := (hw b hb).1; rw [g₂.heap b o e] at this; injection this
end
noncomputable def numbered (ds : List D) : List D := ds.zipIdx.map fun p => .tup [.int p.2, p.1]
theorem numbered_get {ds : List D} {i : Nat} {d : D} (h : (numbered ds)[i]? = some d) : ∃ d', ds[i]? = some d' ∧ d = .tup [.int i, d'] := by
 unfold numbered at h
 rw [List.getElem?_map, List.getElem?_zipIdx] at h
 cases e : ds[i]? with
 | none => rw [e] at h; injection h
 | some d' => rw [e] at h; simp at h; exact ⟨d', rfl, h.symm⟩
theorem numbered_length (ds : List D) : (numbered ds).length = ds.length := by simp [numbered]
theorem mk_enum_list {elts : List Expr} {k : Nat} {tp : Pos} {ds : List D} : MkIter "enumerate" [.list ds] (.Tuple elts k tp) (numbered ds) := .mk fun prog w X A s Q E vs hh hX ra hQ => by
 refine el12 ra.one fun _ y0 => ?_; subst y0; intro r
 refine Rep.eList r @fun l vs hl hf rb => ?_
 refine el11 (id hl) fun nn hol => ?_
 refine call_enumerate_list hl.isList fun h' he hit hsz hk => wpAny_pyIter_enum he ?_
 have hll : l < s.heap.objs.size := Heap.lt_size hol
 have hnew : ∀ a, s.heap.objs.size ≤ a → s.heap.get? a = none := fun a h => none_at h
 refine hQ _ ((s.heap.objs.size + 1) :: [s.heap.objs.size, l]) [s.heap.objs.size + 1, s.heap.objs.size] (fun X i h => ((∃ old, IsEnum h (s.heap.objs.size + 1) s.heap.objs.size i old) ∧ (h.IsListIter s.heap.objs.size l i ∧ h.IsList l vs.toArray)) ∧ (PL h l vs ∧ RepAll X h vs ds)) h' s.toks (fun A' hA' => ?_) ?_ hk ?_ ?_
 ·refine Run.of_walksT (St' := fun X h => PL h l vs ∧ RepAll X h vs ds) (WalksT.enumerateD (Draws.list (A := A'.in1) hA' s.heap.objs.size l (Nat.ne_of_lt hll) vs.toArray) (s.heap.objs.size + 1) (Nat.succ_ne_self _) (fun q => by
   refine Or.elim (List.mem_cons.mp q) (fun q => ?_) (fun q => ?_)
   ·exact Nat.succ_ne_self _ q
   ·exact Nat.lt_irrefl _ (Nat.lt_trans (Nat.lt_succ_self _) ((List.mem_singleton.mp q).symm ▸ hll))) (List.mem_cons_self ..)) ?_ ?_ ?_ ?_ ?_ ?_
  ·rw [List.size_toArray, rb.length, numbered_length]
  ·intro i h st b hb
   focus (refine Or.elim (List.mem_cons.mp hb) (fun y0 => ?_) (fun hb => ?_); subst y0)
   ·refine el11 st.1 fun old e => ?_; exact ⟨_, e⟩
   ·rw [List.mem_singleton.mp hb]; refine el12 st.2.1 fun o e _ => ?_; exact ⟨o, e⟩
  ·exact fun X h h' st hk hs => ⟨st.1.at fun o e => hk l (by simp) o e, st.2.mono hs⟩
  ·exact fun X h a st ha => ⟨st.1, st.2.new ha⟩
  ·intro X i d vals h hd hP st
   refine el12 (numbered_get hd) fun d' hd' y0 => ?_; subst y0
   refine el22 hP fun t x hx y0 => ?_; subst y0
   refine el12 (st.2.get hd') fun v' hv' r' => ?_
   have : vs[i]? = some x := by simpa using hx
   rw [this] at hv'; (injection hv' with y0; subst y0)
   exact ⟨_, rfl, .cons (.int _ _) (.cons r' .nil)⟩
  ·intro X h h' hI st hk
   have hlw : l ∉ [s.heap.objs.size + 1, s.heap.objs.size] := fun q => by
    refine Or.elim (List.mem_cons.mp q) (fun q => ?_) (fun q => ?_)
    ·exact Nat.lt_irrefl _ (Nat.lt_trans (Nat.lt_succ_self _) (q ▸ hll))
    ·exact Nat.lt_irrefl _ ((List.mem_singleton.mp q) ▸ hll)
   exact ⟨st.1.at fun o e => hk l o hlw e, st.2.mono fun b o hb _ e => hk b o (fun q => hb (hI b q)) e⟩
 ·refine ⟨⟨⟨_, he⟩, hit, hl.isList.at fun o e => hk l o e⟩, hl.at fun o e => hk l o e, ?_⟩
  have r1 := (rb.new (a := s.heap.objs.size) (hnew _ (Nat.le_refl _))).new (a := s.heap.objs.size + 1) (hnew _ (by omega))
  exact r1.keeps hk
 ·intro b hb
  focus (refine Or.elim (List.mem_cons.mp hb) (fun y0 => ?_) (fun hb => ?_); subst y0)
  ·exact ⟨hnew _ (by omega), _, he⟩
  ·rw [List.mem_singleton.mp hb]; refine el12 hit fun o e _ => ?_; exact ⟨hnew _ (Nat.le_refl _), o, e⟩
 ·intro b hb
  focus (refine Or.elim (List.mem_cons.mp hb) (fun y0 => ?_) (fun hb => ?_); subst y0)
  ·exact .inl (by simp)
  ·focus (refine Or.elim (List.mem_cons.mp hb) (fun y0 => ?_) (fun hb => ?_); subst y0)
   ·exact .inl (by simp)
   ·rw [List.mem_singleton.mp hb]; exact .inr ⟨hf, _, hk l _ hol, .inl ⟨_, _, rfl⟩⟩
noncomputable def zipped (as bs : List D) : List D := (as.zip bs).map fun p => .tup [p.1, p.2]
theorem zipped_get {as bs : List D} {i : Nat} {d : D} (h : (zipped as bs)[i]? = some d) : ∃ a b, as[i]? = some a ∧ bs[i]? = some b ∧ d = .tup [a, b] := by
 unfold zipped at h
 rw [List.getElem?_map] at h
 cases e : (as.zip bs)[i]? with
 | none => rw [e] at h; injection h
 | some p => rw [e] at h; simp at h; have := List.getElem?_zip_eq_some.mp e; exact ⟨p.1, p.2, this.1, this.2, h.symm⟩
theorem zipped_length (as bs : List D) : (zipped as bs).length = min as.length bs.length := by simp [zipped]
end
section
mutual
noncomputable def py : D → PyData
 | .none => .none
 | .bool b => .bool b
 | .int i => .int i
 | .str l => .str (tx l)
 | .list ds => .list (pys ds)
 | .tup ds => .tuple (pys ds)
 | .bytes _ | .raw _ | .bm _ _ | .rng _ _ | .code _ | .fn _ _ | .inst _ _ | .meth _ _ _ => .none
noncomputable def pys : List D → List PyData
 | [] => []
 | d :: ds => py d :: pys ds
end
mutual
noncomputable def pyOk : D → Bool
 | .none | .bool _ | .int _ | .str _ => true
 | .list ds | .tup ds => pysOk ds
 | .bytes _ | .raw _ | .bm _ _ | .rng _ _ | .code _ | .fn _ _ | .inst _ _ | .meth _ _ _ => false
noncomputable def pysOk : List D → Bool
 | [] => true
 | d :: ds => pyOk d && pysOk ds
end
theorem Rep.reads {X : List Addr} {h : Heap} {v : Value} {d : D} (r : Rep X h v d) : pyOk d = true → ∃ as, Reads h v (py d) as :=
 Rep.rec (motive_1 := fun v d _ => pyOk d = true → ∃ as, Reads h v (py d) as) (motive_2 := fun vs ds _ => pysOk ds = true → ∃ as, ReadsAll h vs (pys ds) as)
  (fun _ => ⟨_, Reads.none⟩) (fun b _ => ⟨_, Reads.bool b⟩) (fun i t _ => ⟨_, Reads.int i t⟩) (fun l t _ => ⟨_, Reads.str (tx l) t⟩) (fun _ _ o => nomatch (show false = true from o)) (fun _ o => nomatch (show false = true from o))
  (fun x _ _ ih o => let ⟨as, ra⟩ := ih o; let ⟨_, e⟩ := x; ⟨_, Reads.list e rfl rfl ra⟩)
  (fun x _ _ ih o => let ⟨as, ra⟩ := ih o; let ⟨_, e, hc, _, hd⟩ := x; ⟨_, Reads.tuple e hc hd ra⟩)
  (fun _ _ o => nomatch (show false = true from o)) (fun _ _ o => nomatch (show false = true from o)) (fun _ _ _ _ _ o => nomatch (show false = true from o)) (fun _ _ _ _ _ _ _ o => nomatch (show false = true from o)) (fun _ _ o => nomatch (show false = true from o)) (fun _ _ _ _ o => nomatch (show false = true from o))
  (fun _ => ⟨_, ReadsAll.nil⟩) (fun _ _ i1 i2 o => let o' := Bool.and_eq_true_iff.mp o; let ⟨_, h1⟩ := i1 o'.1; let ⟨_, h2⟩ := i2 o'.2; ⟨_, ReadsAll.cons h1 h2⟩) r
theorem cmp_eq_data {d₁ d₂ : D} {b : Bool} (o₁ : pyOk d₁ = true) (o₂ : pyOk d₂ = true) (l₁ : (py d₁).layable0 = true) (l₂ : (py d₂).layable0 = true) (hb : PyData.eqv (py d₁) (py d₂) = b) : CmpIs .Eq d₁ d₂ b := .mk <| fun prog w X A s E v₁ v₂ hu r₁ r₂ => by
 refine el11 (r₁.reads o₁) fun as h1 => ?_
 refine el11 (r₂.reads o₂) fun bs h2 => ?_
 exact eq_dataS h1 h2 l₁ l₂ hu ⟨by rw [hb], .refl _⟩
theorem cmp_ne_data {d₁ d₂ : D} {b : Bool} (o₁ : pyOk d₁ = true) (o₂ : pyOk d₂ = true) (l₁ : (py d₁).layable0 = true) (l₂ : (py d₂).layable0 = true) (hb : PyData.eqv (py d₁) (py d₂) = b) : CmpIs .NotEq d₁ d₂ (!b) := .mk <| fun prog w X A s E v₁ v₂ hu r₁ r₂ => by
 refine el11 (r₁.reads o₁) fun as h1 => ?_
 refine el11 (r₂.reads o₂) fun bs h2 => ?_
 exact ne_dataS h1 h2 l₁ l₂ hu ⟨by rw [hb], .refl _⟩
theorem cmp_is_type {a b : String} : CmpIs .Is (.raw (.type a)) (.raw (.type b)) (a == b) := .mk <| fun prog w X A s E v₁ v₂ _ r₁ r₂ => by
 refine Rep.eRaw r₁ ?_; refine Rep.eRaw r₂ ?_
 refine wpAny_is_plain rfl ⟨?_, .refl _⟩
 congr 1
 by_cases h : a = b
 ·subst h; simp
 ·rw [beq_eq_false_iff_ne.mpr h, beq_eq_false_iff_ne.mpr (fun q => h (by injection q <;> rfl))]
noncomputable def isNone : D → Bool | .none => true | _ => false
noncomputable def toldNone : D → Bool | .raw _ => false | _ => true
theorem cmp_is_none {d : D} (h : toldNone d = true) : CmpIs .Is d .none (isNone d) := .mk <| fun prog w X A s E v₁ v₂ _ r₁ r₂ => by
 refine Rep.eNone r₂ ?_
 refine PySem.is_none ⟨?_, .refl _⟩
 cases r₁ <;> first | rfl | (simp [toldNone] at h; done)
theorem cmp_isnot_none {d : D} (h : toldNone d = true) : CmpIs .IsNot d .none (!isNone d) := .mk <| fun prog w X A s E v₁ v₂ _ r₁ r₂ => by
 refine Rep.eNone r₂ ?_
 refine PySem.isNot_none ⟨?_, .refl _⟩
 cases r₁ <;> first | rfl | (simp [toldNone] at h; done)
theorem cmp_isnot_str {l : List Nat} {a : Addr} : CmpIs .IsNot (.str l) (own a) true := .mk <| fun prog w X A s E v₁ v₂ _ r₁ r₂ => by
 refine Rep.eStr r₁ fun _ => ?_; refine Rep.eRaw r₂ ?_; exact wpAny_isNot_other rfl (by simp) ⟨rfl, .refl _⟩
theorem cmp_in_str {l : List Nat} {c : Nat} : CmpIs .In (.str [c]) (.str l) (decide (c ∈ l)) := .mk <| fun prog w X A s E v₁ v₂ _ r₁ r₂ => by
 refine Rep.eStr r₁ fun _ => ?_; refine Rep.eStr r₂ fun _ => ?_
 refine P.in_str ⟨?_, .refl _⟩
 congr 1
 exact (StrLaws.found_one (tx l) c)
theorem strsAre {X : List Addr} {h : Heap} : ∀ {ls : List (List Nat)} {vs : List Value}, RepAll X h vs (dstrs ls) → StrsAre vs (ls.map tx)
 | [], _, .nil => .nil
 | l :: ls, _, .cons r ra => by refine Rep.eStr r fun _ => ?_; exact .cons _ _ (strsAre ra)
theorem any_tx (ls : List (List Nat)) (l : List Nat) : (ls.map tx).any (· == tx l) = ls.contains l := by
 induction ls with
 | nil => rfl
 | cons a ls ih =>
  rw [List.map_cons, List.any_cons, ih, List.contains_cons]
  congr 1
  rw [Bool.eq_iff_iff, beq_iff_eq, beq_iff_eq]
  constructor
  ·intro h; injection h with h; exact (Array.toList_inj.mpr h).symm
  ·intro h; rw [h]
theorem cmp_in_tup {l : List Nat} {ls : List (List Nat)} : CmpIs .In (.str l) (.tup (dstrs ls)) (ls.contains l) := .mk <| fun prog w X A s E v₁ v₂ _ r₁ r₂ => by
 refine Rep.eStr r₁ fun _ => ?_
 refine Rep.eTup r₂ fun ht hf ra => ?_
 refine in_tuple_strs ht (ys := ls.map tx) (by simpa using strsAre ra) ⟨?_, .refl _⟩
 rw [any_tx]
section
variable {G : Gd} {n : Nat} {env : Env} {ρ : Loc} {ow : Own}
theorem tst_cmp2 {op₁ op₂ : CmpOp} {e₁ e₂ e₃ : Expr} {pos : Pos} {d₁ d₂ d₃ : D} {b₁ b₂ : Bool} (hm : behindInMarks op₂ e₃ = false) (h₁ : Ev G (n + 8) env ρ ow e₁ d₁) (h₂ : Ev G (n + 8) env ρ ow e₂ d₂) (h₃ : Ev G (n + 8) env ρ ow e₃ d₃) (c₁ : CmpIs op₁ d₁ d₂ b₁) (c₂ : CmpIs op₂ d₂ d₃ b₂) :
  Tst G (n + 8) env ρ ow (.Compare e₁ [op₁, op₂] [e₂, e₃] pos) (b₁ && b₂) := .mk <| fun X A s E R F => by
 rw [arm_isTrue_Compare]
 show wpAny _ A (eval e₁ env >>= fun a => testChain pos a [op₁, op₂] [eval e₂ env, markedBehindIn op₂ e₃ (eval e₃ env)]) _ E s
 rw [markedBehindIn_of_false hm]
 refine wpAny_bind (wpAny_mono (h₁.go X A s E R F) (fun v₁ s₁ q₁ => ?_) fun _ _ x => x)
 have F₁ := F.keeps q₁.2
 refine wpAny_bind (wpAny_holding (wpAny_mono (h₂.go X A s₁ E R F₁) (fun v₂ s₂ q₂ => wpAny_bind (wpAny_standAt ?_)) fun _ _ x => x))
 have F₂ := F₁.keeps q₂.2
 refine wpAny_bind (wpAny_holding (wpAny_mono (c₁.go _ _ X A s₂ E v₁ v₂ (by have := R.un; omega) (q₁.1.keeps q₂.2.heap) q₂.1) (fun v s₃ q => ?_) fun _ _ x => x))
 obtain ⟨rfl, g⟩ := q
 have F₃ := F₂.keeps g
 refine wpAny_bind ?_
 refine wpAny_release ?_
 refine wpAny_bind (wpAny_holding (wpAny_truthy_bool ?_))
 have g₀ := (q₁.2.trans q₂.2).trans g
 cases b₁ with
 | false => exact wpAny_pure ⟨rfl, g₀⟩
 | true =>
  rw [if_pos rfl]
  show wpAny _ _ (do
   let rv ← holding [v₂] (eval e₃ env)
   standAt pos
   let c ← operate [v₂, rv] (compareOp op₂ v₂ rv)
   holding [c] (truthy c)) _ _ _
  refine wpAny_bind (wpAny_holding (wpAny_mono (h₃.go X A s₃ E R F₃) (fun v₃ s₄ q₄ => wpAny_bind (wpAny_standAt ?_)) fun _ _ x => x))
  refine wpAny_bind (wpAny_operateT (wpAny_mono (c₂.go _ _ X A s₄ E v₂ v₃ (by have := R.un; omega) ((q₂.1.keeps g.heap).keeps q₄.2.heap) q₄.1) (fun v s₅ q => ?_) fun _ _ x => x))
  obtain ⟨rfl, g₅⟩ := q
  exact wpAny_holding (wpAny_truthy_bool ⟨rfl, (g₀.trans q₄.2).trans g₅⟩)
end
end
section
section
variable {G : Gd} {n : Nat}
theorem fn_sorted {ns ms : List Int} (h64 : ns.length < 64) (hp : ms.Perm ns) (hs : ms.Pairwise (· ≤ ·)) : FnIs G n (.builtin "sorted") [.list (dints ns)] (.list (dints ms)) := .mk fun X A s E vs R hb hX ra => by
 refine el12 ra.one fun _ y0 => ?_; subst y0; intro r
 refine Rep.eList r fun hl hf rb => ?_
 have hi := ints_are rb
 refine sorted_ints hl.isList hi (by rw [hi.length]; exact h64) fun out ns' a1 a2 a3 => ?_
 have e : ns' = ms := (a2.trans hp.symm).eq_of_pairwise (fun a b _ _ h1 h2 => Int.le_antisymm h1 h2) a3 hs
 subst e
 obtain ⟨k, he⟩ := sortedAll_at s.heap _ out
 refine ⟨.list (vs := out.toList) ⟨k, ?_⟩ (fun q => ?_) (ints_rep a1), .of fun _ _ => sortedAll_old⟩
 ·exact he
 ·refine el11 (hX _ q) fun o e => ?_
  exact absurd (Heap.lt_size e) (Nat.not_lt.mpr (Nat.le_succ _))
end
structure EvJ (G : Gd) (n : Nat) (env : Env) (ρ : Loc) (ow : Own) (es : List Expr) (ls : List (List Nat)) : Prop where
 go : ∀ (X : List Addr) (A : Around) (s : Shared) (E : Value → Shared → Prop) (out : List Nat), Room n A → Fits G env X ρ ow s → out.length + (ls.map List.length).sum ≤ sizeLine → wpAny (model G.prog G.w) A (joinParts (tx out) (evalEach es env)) (EvQ X (.str (out ++ ls.flatten)) s) E s
section
variable {G : Gd} {n : Nat} {env : Env} {ρ : Loc} {ow : Own}
theorem evj_nil : EvJ G n env ρ ow [] [] := .mk fun X A s E out R F hsz => by
 refine joinParts_nil ⟨?_, .toks _ _⟩ (by rw [tx_len]; simpa using hsz)
 simpa using Rep.str (X := X) (h := s.heap) out s.toks
theorem evj_cons {e : Expr} {es : List Expr} {l : List Nat} {ls : List (List Nat)} (h : Ev G n env ρ ow e (.str l)) (r : EvJ G n env ρ ow es ls) : EvJ G n env ρ ow (e :: es) (l :: ls) := .mk fun X A s E out R F hsz => by
 simp only [List.map_cons, List.sum_cons] at hsz
 refine joinParts_cons (wpAny_mono (h.go X A s E R F) (fun v s₁ q => ?_) fun _ _ y => y)
 obtain ⟨q, g⟩ := q
 refine Rep.eStr q fun t => ?_
 have e : (tx out ++ tx l) = tx (out ++ l) := str_app out l
 refine ⟨by rw [e, tx_len, List.length_append]; omega, ?_⟩
 rw [e]
 refine wpAny_mono (r.go X A s₁ E (out ++ l) R (F.keeps g) (by rw [List.length_append]; omega)) (fun v s₂ q₂ => ⟨?_, g.trans q₂.2⟩) fun _ _ y => y
 simpa using q₂.1
theorem ev_fval {e : Expr} {pos : Pos} {l : List Nat} (h : Ev G n env ρ ow e (.str l)) (hl : l.length ≤ sizeLine) : Ev G n env ρ ow (.FormattedValue e (-1) none pos) (.str l) := .mk fun X A s E R F => by
 refine FormattedValue_plain (wpAny_mono (h.go X A s E R F) (fun v s₁ q => ?_) fun _ _ y => y)
 obtain ⟨q, g⟩ := q
 refine Rep.eStr q fun t => ?_
 exact formatField_str (fun t' tk => ⟨.str _ _, g.trans (.toks _ _)⟩) (by rw [tx_len]; exact hl)
theorem ev_fstr {e₁ e₂ : Expr} {es : List Expr} {pos : Pos} {ls : List (List Nat)} (h : EvJ G n env ρ ow (e₁ :: e₂ :: es) ls) (hsz : (ls.map List.length).sum ≤ sizeLine) : Ev G n env ρ ow (.JoinedStr (e₁ :: e₂ :: es) pos) (.str ls.flatten) := .mk fun X A s E R F => by
 refine JoinedStr_many ?_
 have := h.go X A s E [] R F (by simpa using hsz)
 rw [List.nil_append] at this
 exact this
theorem FnIs.le {m : Nat} {f : Value} {ds : List D} {d : D} (h : FnIs G n f ds d) (hm : n ≤ m) : FnIs G m f ds d := .mk fun X A s E vs R => h.go X A s E vs (R.le hm)
end
noncomputable def fnAt (K : Frag) (a : Addr) : FuncData := match K.lookup a with | some ⟨_, _, .func fd, _⟩ => fd | _ => default
noncomputable def isFnAt (K : Frag) (a : Addr) : Bool := match K.lookup a with | some ⟨_, _, .func _, _⟩ => true | _ => false
set_option tactic.hygienic true in
theorem fnAt_of {K : Frag} {a : Addr} (h : isFnAt K a = true) : ∃ oc od osl, K.lookup a = some ⟨oc, od, .func (fnAt K a), osl⟩ := by
 unfold isFnAt at h
 unfold fnAt
 split at h
 ·rename_i oc od fd osl e; exact ⟨oc, od, osl, by rw [e]⟩
 ·injection h
noncomputable def S (s : String) : List Nat := s.toList.map Char.toNat
theorem ev_lit {G : Gd} {n : Nat} {env : Env} {ρ : Loc} {ow : Own} {s : String} {k : Nat} {pos : Pos} : Ev G n env ρ ow (.Constant (.str (Str.ofString s)) k pos) (.str (S s)) := ev_str (Str.ofString_eq_toList s)
noncomputable def noDup : List Str → Bool
 | [] => true
 | x :: r => !(r.contains x) && noDup r
theorem nodup_of : ∀ {l : List Str}, noDup l = true → l.Nodup
 | [], _ => .nil
 | x :: r, h => by
  simp only [noDup, Bool.and_eq_true] at h
  exact List.nodup_cons.mpr ⟨fun q => by simp [q] at h, nodup_of h.2⟩
theorem fn_K {G : Gd} {n : Nat} {K : Frag} (hK : G.K = K) {f : Addr} {body : List Stmt} (ρ : Loc) {d : D}
  (ho : isFnAt K f = true) (hcd : codeIn K (fnAt K f).code (fnAt K f).qualname = true) (hbody : (fnAt K f).body = .stmts body)
  (hbind : ∀ vs : List Value, vs.length = ρ.length → bindArgs (fnAt K f) ⟨vs, []⟩ = pure ((ρ.map (·.1)).zip vs)) (hclo : (fnAt K f).closure = []) (hnd : noDup (ρ.map (·.1)) = true)
  (hkind : ((ρ.map (·.1)).all fun x => (fnAt K f).scope.names.lookup x == some .local || (fnAt K f).scope.names.lookup x == some .cell) = true)
  (hgl : (fnAt K f).globals = mainGlobals) (hbl : (fnAt K f).builtins = builtinsNs)
  (hco : (fnAt K f).scope.isCoroutine = false) (hgen : (fnAt K f).scope.isGenerator = false) (hk : (fnAt K f).scope.kind = .function)
  (h : ∀ X L, Ex G n (callEnvC (fnAt K f) L f) ρ [] [body] (.fn X d)) : FnIs G (n + 1) (.ref f) (ρ.map (·.2)) d := by
 subst hK
 refine el31 (fnAt_of ho) fun oc od osl e => ?_
 refine fn_of e hcd hbody (ns := ρ.map (·.1)) ?_ hclo (nodup_of hnd) (by simp) hkind hgl hbl hco hgen hk ?_
 ·intro vs hv; exact hbind vs (by simpa using hv)
 ·intro X L
  have : (ρ.map (·.1)).zip (ρ.map (·.2)) = ρ := by
   induction ρ with
   | nil => rfl
   | cons x r ih => simp [List.zip_map']
  rw [this]; exact h X L
theorem lk_here {n : Str} {d : D} {ρ : Loc} : ((n, d) :: ρ).lookup n = some d := by rw [List.lookup_cons, beq_self_eq_true]
theorem lk_next {n m : Str} {d e : D} {ρ : Loc} (h : (n == m) = false) (r : ρ.lookup n = some d) : ((m, e) :: ρ).lookup n = some d := by rw [List.lookup_cons, h]; exact r
theorem flatMap_one {α β : Type} (f : α → β) (l : List α) : (l.flatMap fun d => [f d]) = l.map f := by
 induction l with
 | nil => rfl
 | cons a r ih => rw [List.flatMap_cons, ih]; rfl
section
variable {G : Gd} {n : Nat} {env : Env} {da : Addr} {ρ : Loc}
theorem asgC_name {x : Str} {px : Pos} {d : D} {ow : Own} (hx : env.kindOf x = some .local) : Asg G n env ow (CT env da) (.Name x px) d ρ ((x, d) :: ρ) :=
 asg_name (by unfold storable; rw [hx]; rfl) (.inl rfl) fun h => by rw [hx] at h; (injection h with y0; injection y0)
theorem asgC_pair {x y : Str} {px py tp : Pos} {k : Nat} {d d₁ d₂ : D} {ow : Own} (hx : env.kindOf x = some .local) (hy : env.kindOf y = some .local) (hu : UnpIs d d₁ d₂) : Asg G n env ow (CT env da) (.Tuple [.Name x px, .Name y py] k tp) d ρ ((y, d₂) :: (x, d₁) :: ρ) :=
 asg_pair (by unfold storable; rw [hx]; rfl) (by unfold storable; rw [hy]; rfl) hu (.inl rfl) (fun h => by rw [hx] at h; (injection h with y0; injection y0)) fun h => by rw [hy] at h; (injection h with y0; injection y0)
theorem sub_tail {x : Str} {d : D} (h : ρ.lookup x = none) : Sub ρ ((x, d) :: ρ) := fun y e q => by
 rw [List.lookup_cons]
 cases hb : y == x with
 | true => rw [beq_iff_eq.mp hb, h] at q; injection q
 | false => exact q
theorem sub_tail2 {x y : Str} {d d' : D} (h : ρ.lookup x = none) (h' : ρ.lookup y = none) : Sub ρ ((y, d') :: (x, d) :: ρ) := fun z e q => by
 rw [List.lookup_cons]
 cases hb : z == y with
 | true => rw [beq_iff_eq.mp hb, h'] at q; injection q
 | false => exact sub_tail h z e q
theorem loops_map {elt iter : Expr} {x : Str} {px pos : Pos} {scope : Scope} {ds : List D} (f : D → D) (hx : env.kindOf x = some .local) (hl : ρ.lookup x = none)
  (step : ∀ d ∈ ds, ∀ done, Ev G n env ((x, d) :: ρ) [(da, .list done)] elt (f d)) : Loops G n env da ρ (.ListComp elt [⟨.Name x px, iter, [], 0⟩] scope pos) 0 (.Name x px) ds (ds.map f) := by
 have := loops_of (G := G) (n := n) (da := da) (ρ := ρ) (ds := ds) (fun d => [f d]) (fun it => turn_one elt (.Name x px) iter [] scope pos it (.ref da) env)
  (fun d hd => ⟨(x, d) :: ρ, true, fun done => asgC_name hx, sub_tail hl, fun done => tsts_nil, fun _ => emit_elt (step d hd), fun h => by injection h⟩)
 rw [flatMap_one] at this; exact this
theorem loops_filter {elt iter c : Expr} {x : Str} {px pos : Pos} {scope : Scope} {ds : List D} (p : D → Bool) (f : D → D) (hx : env.kindOf x = some .local) (hl : ρ.lookup x = none)
  (ht : ∀ d ∈ ds, ∀ done, Tst G n env ((x, d) :: ρ) [(da, .list done)] c (p d))
  (step : ∀ d ∈ ds, p d = true → ∀ done, Ev G n env ((x, d) :: ρ) [(da, .list done)] elt (f d)) : Loops G n env da ρ (.ListComp elt [⟨.Name x px, iter, [c], 0⟩] scope pos) 0 (.Name x px) ds (ds.flatMap fun d => if p d then [f d] else []) :=
 loops_of (fun d => if p d then [f d] else []) (fun it => turn_one elt (.Name x px) iter [c] scope pos it (.ref da) env)
  (fun d hd => ⟨(x, d) :: ρ, p d, fun done => asgC_name hx, sub_tail hl, fun done => tsts_one (ht d hd done), fun h => by rw [if_pos h]; exact emit_elt (step d hd h), fun h => by rw [if_neg (by simp [h])]⟩)
theorem loops_pfilter {elt iter c : Expr} {x y : Str} {px py tp pos : Pos} {k : Nat} {scope : Scope} {ds : List D} (p : D → Bool) (l r f : D → D) (hx : env.kindOf x = some .local) (hy : env.kindOf y = some .local) (hl : ρ.lookup x = none) (hl' : ρ.lookup y = none) (hu : ∀ d ∈ ds, UnpIs d (l d) (r d))
  (ht : ∀ d ∈ ds, ∀ done, Tst G n env ((y, r d) :: (x, l d) :: ρ) [(da, .list done)] c (p d))
  (step : ∀ d ∈ ds, p d = true → ∀ done, Ev G n env ((y, r d) :: (x, l d) :: ρ) [(da, .list done)] elt (f d)) : Loops G n env da ρ (.ListComp elt [⟨.Tuple [.Name x px, .Name y py] k tp, iter, [c], 0⟩] scope pos) 0 (.Tuple [.Name x px, .Name y py] k tp) ds (ds.flatMap fun d => if p d then [f d] else []) :=
 loops_of (fun d => if p d then [f d] else []) (fun it => turn_one elt (.Tuple [.Name x px, .Name y py] k tp) iter [c] scope pos it (.ref da) env)
  (fun d hd => ⟨(y, r d) :: (x, l d) :: ρ, p d, fun done => asgC_pair hx hy (hu d hd), sub_tail2 hl hl', fun done => tsts_one (ht d hd done), fun h => by rw [if_pos h]; exact emit_elt (step d hd h), fun h => by rw [if_neg (by simp [h])]⟩)
theorem loops_two {elt iter iter' : Expr} {x y : Str} {px py pos : Pos} {scope : Scope} {ds : List D} (es : D → List D) (f : D → D → D) (hx : env.kindOf x = some .local) (hy : env.kindOf y = some .local) (hxy : (y == x) = false) (hl : ρ.lookup x = none) (hl' : ρ.lookup y = none) (hfold : ∀ x, foldedSetIterable iter' env x = pure x)
  (hs : ∀ d ∈ ds, ∀ done, Src G n env ((x, d) :: ρ) [(da, .list done)] (.Name y py) iter' (es d))
  (step : ∀ d ∈ ds, ∀ e ∈ es d, ∀ done, Ev G n env ((y, e) :: (x, d) :: ρ) [(da, .list done)] elt (f d e)) :
  Loops G n env da ρ (.ListComp elt [⟨.Name x px, iter, [], 0⟩, ⟨.Name y py, iter', [], 0⟩] scope pos) 0 (.Name x px) ds (ds.flatMap fun d => (es d).map (f d)) := by
 refine loops_of (fun d => (es d).map (f d)) (fun it => turn_outer elt (.Name x px) iter (.Name y py) iter' [] [] scope pos it (.ref da) env)
  (fun d hd => ⟨(x, d) :: ρ, true, fun done => asgC_name hx, sub_tail hl, fun done => tsts_nil, fun _ => ?_, fun h => by injection h⟩)
 refine emit_inner (hs d hd) hfold ?_
 have := loops_of (G := G) (n := n) (da := da) (ρ := (x, d) :: ρ) (ds := es d) (fun e => [f d e]) (fun it => turn_two elt (.Name y py) iter' (.Name x px) iter [] [] scope pos it (.ref da) env)
  (fun e he => ⟨(y, e) :: (x, d) :: ρ, true, fun done => asgC_name hy, sub_tail (by rw [List.lookup_cons, hxy]; exact hl'), fun done => tsts_nil, fun _ => emit_elt (step d hd e he), fun h => by injection h⟩)
 rw [flatMap_one] at this; exact this
end
theorem item_str0 {l : List Nat} {i : Int} (h : 0 ≤ i ∧ i < l.length) (hl : l.length < 2 ^ 62) : ItemIs (.str l) (.int i) (.str [l.getD i.toNat 0]) := by
 have hlt : i.toNat < l.length := by omega
 refine item_str (j := i.toNat) ?_ ?_ (by omega)
 ·unfold PySem.seqIndex?
  have h1 : ¬ i < 0 := by omega
  simp [h1, h.1, h.2]
 ·rw [List.getElem?_eq_getElem hlt, List.getD_eq_getElem?_getD, List.getElem?_eq_getElem hlt]; rfl
end
section
section
variable {G : Gd} {n : Nat} {env : Env} {ρ : Loc} {ow : Own} {bs : List (List Stmt)} {o : Out}
theorem ex_forN {x : Str} {px : Pos} {e : Expr} {body rest : List Stmt} {pos : Pos} {ds : List D} (hk : storable env x = true) (hs : Src G n env ρ ow (.Name x px) e ds) (ρof : Nat → Loc) (owof : Nat → Own) (h0 : Sub (ρof 0) ρ) (how : OSub (owof 0) ow) (ha : ∀ i, (owof i).map (·.1) = ow.map (·.1))
  (turn : ∀ i d, ds[i]? = some d → ∀ Y, Ex G n env ((x, d) :: ρof i) (owof i) [body] (Out.turn Y (ρof (i + 1)) (owof (i + 1)) (BrkTo G n env ow (rest :: bs) o) o.ret))
  (he : Ex G n env (ρof ds.length) (owof ds.length) (rest :: bs) o) (hfold : ∀ x, foldedSetIterable e env x = pure x := by intro _; rfl) : Ex G n env ρ ow ((.For (.Name x px) e body [] pos :: rest) :: bs) o :=
 ex_for hs ρof owof h0 how ha (fun i d hd => ⟨(x, d) :: ρof i, asg_name hk (.inl rfl) fun _ c hc => .inr (.inl ⟨x, hc⟩), fun Y => turn i d hd Y⟩) he hfold
theorem ex_forP {x y : Str} {px py tp : Pos} {k : Nat} {e : Expr} {body rest : List Stmt} {pos : Pos} {ds : List D} (l r : D → D) (hx : storable env x = true) (hy : storable env y = true) (hs : Src G n env ρ ow (.Tuple [.Name x px, .Name y py] k tp) e ds) (ρof : Nat → Loc) (owof : Nat → Own) (h0 : Sub (ρof 0) ρ) (how : OSub (owof 0) ow) (ha : ∀ i, (owof i).map (·.1) = ow.map (·.1)) (hu : ∀ d ∈ ds, UnpIs d (l d) (r d))
  (turn : ∀ i d, ds[i]? = some d → ∀ Y, Ex G n env ((y, r d) :: (x, l d) :: ρof i) (owof i) [body] (Out.turn Y (ρof (i + 1)) (owof (i + 1)) (BrkTo G n env ow (rest :: bs) o) o.ret))
  (he : Ex G n env (ρof ds.length) (owof ds.length) (rest :: bs) o) (hfold : ∀ x, foldedSetIterable e env x = pure x := by intro _; rfl) : Ex G n env ρ ow ((.For (.Tuple [.Name x px, .Name y py] k tp) e body [] pos :: rest) :: bs) o :=
 ex_for hs ρof owof h0 how ha (fun i d hd => ⟨(y, r d) :: (x, l d) :: ρof i, asg_pair hx hy (hu d (List.mem_of_getElem? hd)) (.inl rfl) (fun _ c hc => .inr (.inl ⟨_, hc⟩)) fun _ c hc => .inr (.inl ⟨_, hc⟩), fun Y => turn i d hd Y⟩) he hfold
theorem ex_turn_end {Y : List Addr} {ρ' : Loc} {ow' : Own} {brk : Loc → Own → Prop} {ret : D → Loc → Own → Prop} (h : Sub ρ' ρ) (h' : OSub ow' ow) : Ex G n env ρ ow [] (Out.turn Y ρ' ow' brk ret) := ex_end ⟨h, h'⟩
end
theorem ev_litE {G : Gd} {n : Nat} {env : Env} {ρ : Loc} {ow : Own} {s : String} {k : Nat} {pos : Pos} {l : List Nat} (h : S s = l) : Ev G n env ρ ow (.Constant (.str (Str.ofString s)) k pos) (.str l) := h ▸ ev_lit
theorem small {n : Nat} (h : n ≤ 1000000) : n ≤ sizeLine := Nat.le_trans h (by decide)
theorem bin_cat' {a b : List Nat} (h : a.length + b.length ≤ 1000000) : BinIs .Add (.str a) (.str b) (.str (a ++ b)) := bin_cat (small h)
theorem inc_cat' {a b : List Nat} (h : a.length + b.length ≤ 1000000) : IncIs .Add (.str a) (.str b) (.str (a ++ b)) := inc_cat (small h)
noncomputable def D.s : D → List Nat | .str l => l | _ => []
noncomputable def D.i : D → Int | .int i => i | _ => 0
noncomputable def D.fst : D → D | .tup (a :: _) => a | .list (a :: _) => a | _ => .none
noncomputable def D.snd : D → D | .tup (_ :: b :: _) => b | .list (_ :: b :: _) => b | _ => .none
theorem mem_dstrs {ls : List (List Nat)} {d : D} (h : d ∈ dstrs ls) : ∃ l ∈ ls, d = .str l := let ⟨l, hl, e⟩ := List.mem_map.mp h; ⟨l, hl, e.symm⟩
theorem mem_signs {l : List Nat} {d : D} (h : d ∈ signs l) : ∃ c ∈ l, d = .str [c] := let ⟨c, hc, e⟩ := List.mem_map.mp h; ⟨c, hc, e.symm⟩
theorem mem_dints {ns : List Int} {d : D} (h : d ∈ dints ns) : ∃ i ∈ ns, d = .int i := let ⟨c, hc, e⟩ := List.mem_map.mp h; ⟨c, hc, e.symm⟩
theorem bin_div' {a b : Int} (h : 0 < b ∧ b < 1073741824) : BinIs .FloorDiv (.int a) (.int b) (.int (a / b)) := bin_div h.1 (PyProof.noPylong_small (by omega))
theorem bin_mod' {a b : Int} (h : 0 < b) : BinIs .Mod (.int a) (.int b) (.int (a % b)) := bin_mod h
theorem bin_pow2 {k : Int} (h : 0 ≤ k ∧ k ≤ 1000000) : BinIs .Pow (.int 2) (.int k) (.int (2 ^ k.toNat)) := bin_pow h.1 h.2 (by decide)
theorem cmp_in_strE {l : List Nat} {c : Nat} {b : Bool} (h : decide (c ∈ l) = b) : CmpIs .In (.str [c]) (.str l) b := h ▸ cmp_in_str
theorem mem_numbered {ds : List D} {d : D} (h : d ∈ numbered ds) : ∃ i d', ds[i]? = some d' ∧ d = .tup [.int (i : Nat), d'] := by
 refine el11 (List.mem_iff_getElem?.mp h) fun i hi => ?_
 refine el12 (numbered_get hi) fun d' h1 h2 => ?_
 exact ⟨i, d', h1, h2⟩
theorem mem_zipped {as bs : List D} {d : D} (h : d ∈ zipped as bs) : ∃ a ∈ as, ∃ b ∈ bs, d = .tup [a, b] := by
 refine el11 (List.mem_iff_getElem?.mp h) fun i hi => ?_
 refine el23 (zipped_get hi) fun a b h1 h2 h3 => ?_
 exact ⟨a, List.mem_of_getElem? h1, b, List.mem_of_getElem? h2, h3⟩
theorem len0 {α : Type} {l : List α} (h : l.length = 0) : l = [] := List.length_eq_zero_iff.mp h
theorem len1 {α : Type} {l : List α} (h : l.length = 1) : ∃ a, l = [a] := List.length_eq_one_iff.mp h
theorem len2 {α : Type} {l : List α} (h : l.length = 2) : ∃ a b, l = [a, b] := by
 match l, h with | [a, b], _ => exact ⟨a, b, rfl⟩
theorem len3 {α : Type} {l : List α} (h : l.length = 3) : ∃ a b c, l = [a, b, c] := by
 match l, h with | [a, b, c], _ => exact ⟨a, b, c, rfl⟩
end
section
noncomputable abbrev MethEq (env : Env) (o : Expr) (name : Str) (apos pos : Pos) (es : List Expr) (pl : Sem Bool) : Prop := eval (.Call (.Attribute o name apos) es [] pos) env = (do
    let ov ← eval o env
    standAt apos.atName
    let (f, first) ← holding [ov] (getMethod ov name pl)
    callWith pos f first (backTo pos (starEach es env)) [])
section
variable {G : Gd} {n : Nat} {env : Env} {ρ : Loc} {ow : Own} {o e e₂ : Expr} {apos pos : Pos} {pl : Sem Bool}
theorem ev_join {sep : List Nat} {ps : List (List Nat)} (hs : noStar [e] = true) (he : MethEq env o "join" apos pos [e] pl) (ho : Ev G n env ρ ow o (.str sep)) (ha : Ev G n env ρ ow e (.list (dstrs ps))) (h : (ps.map fun p => p.length + sep.length).sum ≤ 1000000) : Ev G n env ρ ow (.Call (.Attribute o "join" apos) [e] [] pos) (.str (joinL sep ps)) :=
 ev_meth ho (meth_str F.slot_str_join F.type_str_join) (evAll_cons (noStar_head hs) ha evAll_nil) hs (fn_join (small h)) he
theorem ev_count {l : List Nat} {c : Nat} (hs : noStar [e] = true) (he : MethEq env o "count" apos pos [e] pl) (ho : Ev G n env ρ ow o (.str l)) (ha : Ev G n env ρ ow e (.str [c])) : Ev G n env ρ ow (.Call (.Attribute o "count" apos) [e] [] pos) (.int (l.count c)) :=
 ev_meth ho (meth_str F.slot_str_count F.type_str_count) (evAll_cons (noStar_head hs) ha evAll_nil) hs fn_count he
theorem ev_sindex {l r : List Nat} {c i : Nat} (hs : noStar [e] = true) (he : MethEq env o "index" apos pos [e] pl) (ho : Ev G n env ρ ow o (.str l)) (ha : Ev G n env ρ ow e (.str [c])) (h : idxs c l = i :: r) : Ev G n env ρ ow (.Call (.Attribute o "index" apos) [e] [] pos) (.int i) :=
 ev_meth ho (meth_str F.slot_str_index F.type_str_index) (evAll_cons (noStar_head hs) ha evAll_nil) hs (fn_index h) he
theorem ev_replace_none {l z : List Nat} {c : Nat} (hs : noStar [e, e₂] = true) (he : MethEq env o "replace" apos pos [e, e₂] pl) (ho : Ev G n env ρ ow o (.str l)) (ha : Ev G n env ρ ow e (.str [c])) (hb : Ev G n env ρ ow e₂ (.str z)) (h : c ∉ l) : Ev G n env ρ ow (.Call (.Attribute o "replace" apos) [e, e₂] [] pos) (.str l) :=
 ev_meth ho (meth_str F.slot_str_replace F.type_str_replace) (evAll_cons (noStar_head hs) ha (evAll_cons (noStar_head (noStar_tail hs)) hb evAll_nil)) hs (fn_replace_none h) he
theorem ev_eq {e : Expr} {d d' : D} (h : Ev G n env ρ ow e d') (q : d' = d) : Ev G n env ρ ow e d := q ▸ h
end
theorem joinL_nil (ps : List (List Nat)) : joinL [] ps = ps.flatten := by
 cases ps with
 | nil => rfl
 | cons p ps => simp [joinL, List.flatMap_id']
theorem sum_le {α : Type} (f : α → Nat) (k : Nat) : ∀ (l : List α), (∀ a ∈ l, f a ≤ k) → (l.map f).sum ≤ l.length * k
 | [], _ => by simp
 | a :: r, h => by
  rw [List.map_cons, List.sum_cons, List.length_cons, Nat.succ_mul]
  have h1 := h a (List.mem_cons_self ..)
  have h2 := sum_le f k r fun b hb => h b (List.mem_cons_of_mem _ hb)
  omega
theorem flatMap_le {α β : Type} (f : α → List β) (k : Nat) (l : List α) (h : ∀ a ∈ l, (f a).length ≤ k) : (l.flatMap f).length ≤ l.length * k := by
 rw [List.length_flatMap]; exact sum_le (fun a => (f a).length) k l h
noncomputable def scopeOk (scope : Scope) : Bool := scope.kind == .function && scope.names.all (fun x => x.2 != .cell && (x.2 != .local || scope.names.lookup x.1 == some .local))
theorem scopeOk_kind {scope : Scope} (h : scopeOk scope = true) : scope.kind = .function := by simpa using (Bool.and_eq_true_iff.mp h).1
theorem scopeOk_names {scope : Scope} (h : scopeOk scope = true) : ∀ x ∈ scope.names, x.2 = .local → scope.names.lookup x.1 = some .local := fun x hx hl => by
 have := List.all_eq_true.mp (Bool.and_eq_true_iff.mp h).2 x hx
 rw [hl] at this
 simpa using this
theorem scopeOk_cell {scope : Scope} (h : scopeOk scope = true) : ∀ x ∈ scope.names, x.2 ≠ .cell := fun x hx hl => by
 have := List.all_eq_true.mp (Bool.and_eq_true_iff.mp h).2 x hx
 rw [hl] at this
 simp at this
section
variable {G : Gd} {n : Nat} {env : Env} {ρ ρc : Loc} {ow : Own}
theorem ev_comp_signs {elt iter : Expr} {x : Str} {px pos : Pos} {scope : Scope} {w : List Nat} (f : Nat → List Nat) (hfold : ∀ x, foldedSetIterable iter env x = pure x) (hcl : closOk env.cells scope.names = true) (hok : scopeOk scope = true) (hx : scope.names.lookup x = some .local) (hl : ρc.lookup x = none) (hf : FSub scope env ρc ρ)
  (hi : Ev G n env ρ ow iter (.str w)) (hsz : w.length ≤ 1000000) (step : ∀ C da done, ∀ c ∈ w, Ev G n (cenvOf scope env C) ((x, .str [c]) :: ρc) [(da, .list done)] elt (.str (f c))) :
  Ev G n env ρ ow (.ListComp elt [⟨.Name x px, iter, [], 0⟩] scope pos) (.list (dstrs (w.map f))) := by
 have e : dstrs (w.map f) = (signs w).map fun d => D.str (f (d.s.headD 0)) := by simp only [dstrs, signs, List.map_map]; rfl
 refine ev_comp (src_of hi iter_str) hfold hcl (scopeOk_kind hok) (scopeOk_names hok) (scopeOk_cell hok) hf (fun C da => ?_) (small (by rw [dstrs, List.length_map, List.length_map]; exact hsz))
 rw [e]
 refine loops_map _ (lookup_relabel_local hx) hl fun d hd done => ?_
 refine el12 (mem_signs hd) fun c hc y0 => ?_; subst y0
 exact step C da done c hc
end
theorem idxs_first {a b : List Nat} {c : Nat} (h : c ∉ a) : (idxs c (a ++ c :: b)).take 1 = [a.length] := by
 unfold idxs
 have e : List.range ((a ++ c :: b).length + 1) = List.range a.length ++ a.length :: (List.range' (a.length + 1) (b.length + 1)) := by
  rw [List.range_eq_range', List.range_eq_range']
  have h1 : (a ++ c :: b).length + 1 = a.length + (1 + (b.length + 1)) := by simp; omega
  rw [h1, ← List.range'_append_1, ← List.range'_append_1]
  simp
 rw [e, List.filter_append, List.filter_cons]
 have h0 : List.filter (fun i => (a ++ c :: b)[i]? == some c) (List.range a.length) = [] := by
  rw [List.filter_eq_nil_iff]
  intro i hi q
  have hi' := List.mem_range.mp hi
  rw [List.getElem?_append_left hi', beq_iff_eq] at q
  exact h (List.mem_of_getElem? q)
 have h1 : ((a ++ c :: b)[a.length]? == some c) = true := by rw [List.getElem?_append_right (Nat.le_refl _)]; simp
 rw [h0, if_pos h1]
 rfl
section
variable {G : Gd} {n : Nat}
end
section
variable {G : Gd} {n : Nat} {env : Env} {ρ : Loc} {ow : Own} {o e e₂ : Expr} {apos pos : Pos} {pl : Sem Bool}
end
section
variable {G : Gd} {n : Nat} {env : Env} {ρ : Loc} {ow : Own}
theorem ev_neg {k : Int} {c : Nat} {p q : Pos} : Ev G n env ρ ow (.UnaryOp .USub (.Constant (.int k) c p) q) (.int (-k)) := .mk <| fun X A s E R F => by
 exact UnaryOp_ (wpAny_Constant_int (neg_int ⟨.int _ _, .toks _ _⟩))
end
theorem cmp_in_tupE {l : List Nat} {ls : List (List Nat)} {b : Bool} (h : ls.contains l = b) : CmpIs .In (.str l) (.tup (dstrs ls)) b := h ▸ cmp_in_tup
end
section
theorem pys_strs : ∀ ls : List (List Nat), pys (dstrs ls) = ls.map fun l => .str (tx l)
 | [] => rfl
 | a :: r => by show _ :: _ = _ :: _; rw [← dstrs, pys_strs r]; rfl
theorem ok_strs : ∀ ns : List (List Nat), pysOk (dstrs ns) = true
 | [] => rfl
 | a :: r => by show (true && pysOk (dstrs r)) = true; rw [ok_strs r]; rfl
theorem tx_beq (a b : List Nat) : (tx a == tx b) = (a == b) := by
 rw [Bool.eq_iff_iff, beq_iff_eq, beq_iff_eq]
 constructor
 ·intro h; injection h with h; exact Array.toList_inj.mpr h
 ·intro h; rw [h]
theorem eqv_strs : ∀ a b : List (List Nat), PyData.eqvAll (a.map fun l => .str (tx l)) (b.map fun l => .str (tx l)) = (a == b)
 | [], [] => rfl
 | [], _ :: _ => rfl
 | _ :: _, [] => rfl
 | x :: a, y :: b => by
  rw [List.map_cons, List.map_cons, PyData.eqvAll, PyData.eqv, eqv_strs a b, tx_beq]; rfl
end
section
theorem and_mask {x : Int} (k : Nat) (hx : 0 ≤ x) : Builtin.bitAnd x ((2 ^ k - 1 : Nat) : Int) = x % (2 ^ k : Nat) := by
 rw [bitAnd_pp hx (by omega)]
 rw [Int.toNat_natCast, Nat.and_two_pow_sub_one_eq_mod]
 refine el11 (Int.eq_ofNat_of_zero_le hx) fun m y0 => ?_; subst y0
 rw [Int.toNat_natCast]; push_cast; rfl
theorem and_63 {x : Int} (hx : 0 ≤ x) : Builtin.bitAnd x 63 = x % 64 := and_mask 6 hx
theorem and_15 {x : Int} (hx : 0 ≤ x) : Builtin.bitAnd x 15 = x % 16 := and_mask 4 hx
theorem and_3 {x : Int} (hx : 0 ≤ x) : Builtin.bitAnd x 3 = x % 4 := and_mask 2 hx
theorem and_65535 {x : Int} (hx : 0 ≤ x) : Builtin.bitAnd x 65535 = x % 65536 := and_mask 16 hx
theorem or_low {a y : Int} (k : Nat) (ha : 0 ≤ a) (hy : 0 ≤ y ∧ y < (2 ^ k : Nat)) : Builtin.bitOr (a * (2 ^ k : Nat)) y = a * (2 ^ k : Nat) + y := by
 refine el11 (Int.eq_ofNat_of_zero_le ha) fun m y0 => ?_; subst y0
 refine el11 (Int.eq_ofNat_of_zero_le hy.1) fun j y0 => ?_; subst y0
 have hj : j < 2 ^ k := by exact_mod_cast hy.2
 rw [bitOr_and]
 have h1 : ((m : Int) * (2 ^ k : Nat)) = ((m * 2 ^ k : Nat) : Int) := by push_cast; rfl
 rw [h1, bitAnd_pp (by omega) (by omega), Int.toNat_natCast, Int.toNat_natCast]
 have h2 : m * 2 ^ k &&& j = 0 := by
  apply Nat.eq_of_testBit_eq
  intro i
  rw [Nat.testBit_and, Nat.zero_testBit, Nat.mul_comm, Nat.testBit_two_pow_mul]
  by_cases h : k ≤ i
  ·have : j.testBit i = false := Nat.testBit_lt_two_pow (Nat.lt_of_lt_of_le hj (Nat.pow_le_pow_right (by decide) h))
   rw [this, Bool.and_false]
  ·simp [h]
 rw [h2]; simp
theorem shr_nat {x : Int} (k : Nat) (hx : 0 ≤ x) : x.fdiv (2 ^ k) = x / (2 ^ k : Nat) := by
 rw [Int.fdiv_eq_ediv_of_nonneg _ (by exact Int.le_of_lt (Int.pow_pos (by decide)))]
 push_cast; rfl
theorem ev_globB {G : Gd} {n : Nat} {env : Env} {ρ : Loc} {ow : Own} {x : Str} {l : List UInt8} {t : Tok} {pos : Pos} (hk : env.kindOf x = some .globalImplicit) (e : nsIn G.K mainGlobals x = some (some (.bytes l.toArray t))) (hd : (x == ("__debug__" : Str)) = false) : Ev G n env ρ ow (.Name x pos) (.bytes l) := .mk <| fun X A s E R F => by
 refine wpAny_mono ((ev_glob (n := n) (pos := pos) (ρ := ρ) (ow := ow) hk e hd).go X A s E R F) (fun v s' q => ?_) fun _ _ y => y
 obtain ⟨q, g⟩ := q
 refine Rep.eRaw q ?_; exact ⟨.bytes l t, g⟩
theorem item_bytes {l : List UInt8} {i : Int} (h : 0 ≤ i ∧ i < l.length) (hl : l.length < 1099511627776) : ItemIs (.bytes l) (.int i) (.int ((l.getD i.toNat 0).toNat : Int)) := .mk <| fun prog w X A s E value slice v₁ v₂ hs _ r₁ r₂ => by
 revert hs; refine Rep.eBytes r₁ fun _ => ?_; refine Rep.eInt r₂ fun _ => ?_; intro hs
 exact tail_any (typeIs_bytes s _ _) FB.slot_bytes_getitem.lookup (PySem.W.getItem_bytes (by omega) h.1 h.2 ⟨.int _ _, .toks _ _⟩) hs
theorem tst_isinstance_str {G : Gd} {n : Nat} {l : List Nat} : FnIs G n (.builtin "isinstance") [.str l, .raw (.type "str")] (.bool true) := .mk fun X A s E vs R hb hX ra => by
 refine el23 ra.two fun _ _ y0 => ?_; subst y0; intro r r'
 refine Rep.eStr r fun _ => ?_; refine Rep.eRaw r' ?_
 exact IsiPair.str_str ⟨.bool _, .refl _⟩
theorem fn_type_bytes {G : Gd} {n : Nat} {l : List UInt8} : FnIs G n (.type "type") [.bytes l] (.raw (.type "bytes")) := .mk fun X A s E vs R hb hX ra => by
 refine el12 ra.one fun _ y0 => ?_; subst y0; intro r
 refine Rep.eBytes r fun _ => ?_
 exact call_type_of (typeIs_bytes _ _ _) (by decide) ⟨.raw _, .refl _⟩
theorem fn_type_bool {G : Gd} {n : Nat} {b : Bool} : FnIs G n (.type "type") [.bool b] (.raw (.type "bool")) := .mk fun X A s E vs R hb hX ra => by
 refine el12 ra.one fun _ y0 => ?_; subst y0; intro r
 refine Rep.eBool r ?_
 exact call_type_of (Tx := "bool") rfl (by decide) ⟨.raw _, .refl _⟩
section
variable {G : Gd} {n : Nat} {env : Env} {ρ : Loc} {ow : Own} {bs : List (List Stmt)} {o : Out}
theorem ex_try {body rest : List Stmt} {h₀ : ExceptHandler} {hs : List ExceptHandler} {pos : Pos} (h : Ex G n env ρ ow [body] ⟨o.base, fun _ _ => False, fun _ _ => False, fun _ _ => False, o.ret⟩) : Ex G n env ρ ow ((.Try body (h₀ :: hs) [] [] pos :: rest) :: bs) o := .mk <| fun X A s E R B F => by
 refine wpAny_execs_cons (wpAny_Try_except ?_)
 refine wpAny_mono (h.go X A s _ R B F) (fun f s₁ q => ?_) fun _ _ y => y
 obtain ⟨t, q⟩ := q
 cases f with
 | ret v => exact seqP_other (by simp) ⟨t, q⟩
 | _ => obtain ⟨_, _, _, _, e, _⟩ := q; exact e.elim
end
open Builtin Builtin._codecs in
theorem encodeRoad_ascii (id : String) (self : Value) (x : Str) (errors : Option Str) : encodeRoad id self x (Str.ofString "ascii") errors = (do mkBytes (← encodeNarrow id asciiCodec errors self x)) := by
 first | rfl | (unfold encodeRoad; rfl) | (unfold encodeRoad; simp only []; rfl) | kernel_rfl
open Builtin Builtin._codecs in
theorem encode_ascii_tree (x : Str) (t u : Tok) : «str.encode» ⟨[.str x t, .str (Str.ofString "ascii") u], []⟩ = (do ret (← encodeRoad "str.encode" (.str x t) x (Str.ofString "ascii") none)) := by
 first | rfl | kernel_rfl
open Builtin in
theorem road_ascii {id : String} {b : Array UInt8} : _codecs.decodeRoad id b (PySem.Str.ofString "ascii") none [] = (_codecs.runDecoder id _codecs.asciiDecoder none true b 0 [] >>= fun r => mkStr ⟨r.1⟩) := by kernel_rfl
open Builtin in
theorem decode_ascii_tree {c : UInt8} {cs : List UInt8} {t u : Tok} : «bytes.decode» ⟨[.bytes (c :: cs).toArray t, .str (Str.ofString "ascii") u], []⟩ = (mkStr (PySem.Str.ofString "utf-8") >>= fun _ => mkStr (PySem.Str.ofString "ascii") >>= fun e => mkStr (PySem.Str.ofString "bytes.decode") >>= fun d =>
  call (.builtin "_codecs.decode.text") [.bytes (c :: cs).toArray t, e, .none, d] >>= fun v => ret v) := by kernel_rfl
theorem sl4 (n : Nat) (h : n ≤ 4) : ¬ sizeLine < n := Nat.not_lt.mpr (Nat.le_trans h (by decide))
theorem for4 {σ β : Type} {f : Nat → σ → Sem (ForInStep σ)} {s0 s1 : σ} {k : σ → Sem β} (h0 : f 0 s0 = pure (.yield s1)) (h1 : f 1 s1 = pure (.done s1)) : (forIn [:4] s0 f >>= k) = k s1 := by
 have e : (forIn [:4] s0 f : Sem σ) = pure s1 := by
  rw [Std.Legacy.Range.forIn_eq_forIn_range']
  show (forIn [0, 1, 2, 3] s0 f : Sem σ) = pure s1
  rw [List.forIn_cons, h0]
  show (forIn [1, 2, 3] s1 f : Sem σ) = pure s1
  rw [List.forIn_cons, h1]; rfl
 rw [e]; rfl
open Builtin Builtin._codecs in
theorem narrow4 (id : String) (self : Value) (a b c d : Nat) (h : a < 128 ∧ b < 128 ∧ c < 128 ∧ d < 128) : encodeNarrow id asciiCodec none self (tx [a, b, c, d]) = pure #[a.toUInt8, b.toUInt8, c.toUInt8, d.toUInt8] := by
 have bad : ∀ {x}, x < 128 → asciiCodec.bad x = false := fun {x} h => decide_eq_false (Nat.not_le.mpr h)
 have hf : Array.findIdx? asciiCodec.bad ((#[a, b, c, d] : Array Nat).extract 0) = none := by
  show Array.findIdx? asciiCodec.bad #[a, b, c, d] = none
  rw [List.findIdx?_toArray, List.findIdx?_cons, bad h.1, List.findIdx?_cons, bad h.2.1, List.findIdx?_cons, bad h.2.2.1, List.findIdx?_cons, bad h.2.2.2]
  rfl
 show encodeNarrow id asciiCodec none self ⟨#[a, b, c, d]⟩ = _
 unfold encodeNarrow
 refine for4 (s1 := (4, #[a.toUInt8, b.toUInt8, c.toUInt8, d.toUInt8], {})) ?_ ?_
 ·refine (if_neg (sl4 0 (by decide))).trans ?_
  show (if (!asciiCodec.bad a) = true then _ else _) = _
  refine (if_pos (by rw [bad h.1]; rfl)).trans ?_
  show pure (ForInStep.yield (0 + (Array.findIdx? asciiCodec.bad ((#[a, b, c, d] : Array Nat).extract 0)).getD 4, _, _)) = _
  dsimp only
  rw [hf]
  kernel_rfl
 ·refine (if_neg (sl4 4 (by decide))).trans ?_
  rfl
theorem for4y {σ β : Type} {f : Nat → σ → Sem (ForInStep σ)} {st : Nat → σ} {k : σ → Sem β} (h : ∀ p, p < 4 → f p (st p) = pure (.yield (st (p + 1)))) : (forIn [:4] (st 0) f >>= k) = k (st 4) := by
 have e : (forIn [:4] (st 0) f : Sem σ) = pure (st 4) := by
  rw [Std.Legacy.Range.forIn_eq_forIn_range']
  show (forIn [0, 1, 2, 3] (st 0) f : Sem σ) = pure (st 4)
  rw [List.forIn_cons, h 0 (by decide)]
  show (forIn [1, 2, 3] (st 1) f : Sem σ) = pure (st 4)
  rw [List.forIn_cons, h 1 (by decide)]
  show (forIn [2, 3] (st 2) f : Sem σ) = pure (st 4)
  rw [List.forIn_cons, h 2 (by decide)]
  show (forIn [3] (st 3) f : Sem σ) = pure (st 4)
  rw [List.forIn_cons, h 3 (by decide)]; rfl
 rw [e]; rfl
theorem four {P : Nat → Prop} (h0 : P 0) (h1 : P 1) (h2 : P 2) (h3 : P 3) : ∀ p, p < 4 → P p
 | 0, _ => h0
 | 1, _ => h1
 | 2, _ => h2
 | 3, _ => h3
open Builtin Builtin._codecs in
theorem decode4 (id : String) (a b c d : UInt8) (h : a.toNat < 128 ∧ b.toNat < 128 ∧ c.toNat < 128 ∧ d.toNat < 128) : runDecoder id asciiDecoder none true #[a, b, c, d] = pure (#[a.toNat, b.toNat, c.toNat, d.toNat], 4) := by
 have hf : ∀ p, p < 4 → asciiDecoder.find true #[a, b, c, d] p = .char ((#[a, b, c, d] : Array UInt8).getD p 0).toNat (p + 1) := fun p hp => if_pos (four (P := fun p => ((#[a, b, c, d] : Array UInt8).getD p 0).toNat < 128) h.1 h.2.1 h.2.2.1 h.2.2.2 p hp)
 unfold runDecoder
 refine for4y (st := fun p => (p, (([a, b, c, d].take p).map UInt8.toNat).toArray, ({} : Faults))) fun p hp => ?_
 refine (if_neg (sl4 _ ?_)).trans ((if_neg (Nat.not_le.mpr hp)).trans ?_)
 ·show (([a, b, c, d].take p).map UInt8.toNat).toArray.size ≤ 4
  rw [List.size_toArray, List.length_map, List.length_take]
  exact Nat.le_trans (Nat.min_le_left _ _) (Nat.le_of_lt hp)
 ·dsimp only
  rw [hf p hp]
  revert p
  exact four (by kernel_rfl) (by kernel_rfl) (by kernel_rfl) (by kernel_rfl)
section
variable {G : Gd} {n : Nat}
theorem fn_encode4 {a b c d : Nat} (h : a < 128 ∧ b < 128 ∧ c < 128 ∧ d < 128) : FnIs G n (.builtin "str.encode") [.str [a, b, c, d], .str (S "ascii")] (.bytes [a.toUInt8, b.toUInt8, c.toUInt8, d.toUInt8]) := .mk fun X A s E vs R hb hX ra => by
 refine el23 ra.two fun _ _ y0 => ?_; subst y0; intro r r'
 have e : (⟨(S "ascii").toArray⟩ : Str) = Str.ofString "ascii" := (Str.ofString_eq_toList "ascii").symm
 refine Rep.eStr r fun _ => ?_
 refine Rep.eStr r' fun t => ?_
 rw [e]
 refine wpAny_call_entry F.slot_str_encode (typeIs_str _ _ _) F.entry_str_encode ?_ (F.args_str_encode_2 _ _)
 show wpAny _ _ (Builtin.«str.encode» ⟨[.str (tx [a, b, c, d]) _, .str (Str.ofString "ascii") _], []⟩) _ _ _
 rw [encode_ascii_tree, encodeRoad_ascii, narrow4 _ _ a b c d h]
 refine wpAny_bind (wpAny_bind (wpAny_pure (wpAny_mkBytes ?_)))
 exact wpAny_pure ⟨_, rfl, .bytes _ _, .toks _ _⟩
open Builtin in
theorem text_ascii {prog : Program} {w : World} {A : Around} {E : Value → Shared → Prop} {s : Shared} {a b c d : UInt8} {t t1 t2 : Tok} {dd : Str} {Q : Value → Shared → Prop} (h : a.toNat < 128 ∧ b.toNat < 128 ∧ c.toNat < 128 ∧ d.toNat < 128) (hQ : ∀ t' k, Q (.str (tx [a.toNat, b.toNat, c.toNat, d.toNat]) t') { s with toks := k }) :
  wpAny (model prog w) A (call (.builtin "_codecs.decode.text") [.bytes #[a, b, c, d] t, .str (Str.ofString "ascii") t1, .none, .str dd t2]) Q E s := by
 refine call_function_meets (S := fun _ R s => ∀ k, R (.ok (.ret (.str (tx [a.toNat, b.toNat, c.toNat, d.toNat]) s.toks))) { s with toks := k }) KBd.kind_text KBd.plain_text KBd.entry_text (KBd.args_text _ _ _ _) (.of_wp fun prog w A R s hS => ?_) ?_
 ·show wpAny _ _ (Bytes.bytesLike _ (.bytes #[a, b, c, d] t) >>= fun r => _) _ _ s
  refine wpAny_bind (wpAny_of_eq KBd.like_eq ?_)
  refine wpAny_bind (wpAny_of_eq KBd.held_eq ?_)
  show wpAny _ _ (_codecs.decodeRoad _ #[a, b, c, d] (PySem.Str.ofString "ascii") none [] >>= fun v => _) _ _ s
  rw [road_ascii, decode4 _ a b c d h]
  refine wpAny_bind (wpAny_bind (wpAny_pure ?_))
  exact wpAny_mkStr (wpAny_pure ⟨_, rfl, hS _⟩) (show 4 ≤ sizeLine by decide)
 ·intro k; exact hQ _ _
theorem args_decode (a b : Value) : argsOk "bytes.decode" ⟨[a, b], []⟩ := by
 unfold argsOk; rw [signature?_of (id := "bytes.decode") (n := ['e', 'd', 'o', 'c', 'e', 'd']) (o := ['s', 'e', 't', 'y', 'b']) (by kernel_rfl) FB.owner_bytes]; kernel_rfl
theorem fn_decode4 {a b c d : UInt8} (h : a.toNat < 128 ∧ b.toNat < 128 ∧ c.toNat < 128 ∧ d.toNat < 128) : FnIs G n (.builtin "bytes.decode") [.bytes [a, b, c, d], .str (S "ascii")] (.str [a.toNat, b.toNat, c.toNat, d.toNat]) := .mk fun X A s E vs R hb hX ra => by
 refine el23 ra.two fun _ _ y0 => ?_; subst y0; intro r r'
 have e : (⟨(S "ascii").toArray⟩ : Str) = Str.ofString "ascii" := (Str.ofString_eq_toList "ascii").symm
 refine Rep.eBytes r fun _ => ?_
 refine Rep.eStr r' fun t => ?_
 rw [e]
 refine wpAny_call_entry FB.slot_bytes_decode (typeIs_bytes _ _ _) FB.entry_bytes_decode ?_ (args_decode _ _)
 show wpAny _ _ (Builtin.«bytes.decode» ⟨[.bytes (a :: [b, c, d]).toArray _, .str (Str.ofString "ascii") _], []⟩) _ _ _
 rw [decode_ascii_tree]
 refine wpAny_bind (wpAny_mkStr (wpAny_bind (wpAny_mkStr (wpAny_bind (wpAny_mkStr (wpAny_bind ?_) (by decide))) (by decide))) (by decide))
 exact text_ascii h fun t' k => wpAny_pure ⟨_, rfl, .str _ _, .toks _ _⟩
end
end
section
structure FnA (G : Gd) (n : Nat) (f : Value) (ds : List D) (kns : List Str) (kds : List D) (d : D) : Prop where
 go : ∀ (X : List Addr) (A : Around) (s : Shared) (E : Value → Shared → Prop) (vs ks : List Value), Room n A → G.H₀.StaysIn s.heap → Live X s.heap → RepAll X s.heap vs ds → RepAll X s.heap ks kds →
  wpAny (model G.prog G.w) A (call f vs (kns.zip ks)) (EvQ X d s) E s
theorem FnA.plain {G : Gd} {n : Nat} {f : Value} {ds : List D} {d : D} (h : FnA G n f ds [] [] d) : FnIs G n f ds d := .mk fun X A s E vs R hb hX ra => h.go X A s E vs [] R hb hX ra .nil
theorem FnA.le {G : Gd} {n m : Nat} {f : Value} {ds : List D} {kns : List Str} {kds : List D} {d : D} (h : FnA G n f ds kns kds d) (hm : n ≤ m) : FnA G m f ds kns kds d := .mk fun X A s E vs ks R => h.go X A s E vs ks (R.le hm)
theorem fn_ofB {G : Gd} {n : Nat} {f : Addr} {oc : Value} {od : Option Addr} {osl : Array (Option Value)} {fd : FuncData} {body : List Stmt} {ns : List Str} {ds ds' : List D} {kns : List Str} {kds : List D} {d : D} (bv : List Value → List Value → List Value)
  (ho : G.K.lookup f = some ⟨oc, od, .func fd, osl⟩) (hcd : codeIn G.K fd.code fd.qualname = true) (hbody : fd.body = .stmts body)
  (hbind : ∀ S (vs ks : List Value), vs.length = ds.length → ks.length = kds.length → peek G.K S (bindArgs fd ⟨vs, kns.zip ks⟩) = some (ns.zip (bv vs ks))) (hrep : ∀ X h vs ks, RepAll X h vs ds → RepAll X h ks kds → RepAll X h (bv vs ks) ds')
  (hclo : fd.closure = []) (hnd : ns.Nodup) (hlen : ns.length = ds'.length)
  (hkind : (ns.all fun x => fd.scope.names.lookup x == some .local || fd.scope.names.lookup x == some .cell) = true)
  (hgl : fd.globals = mainGlobals) (hbl : fd.builtins = builtinsNs)
  (hco : fd.scope.isCoroutine = false) (hgen : fd.scope.isGenerator = false) (hk : fd.scope.kind = .function)
  (h : ∀ X L, Ex G n (callEnvC fd L f) (ns.zip ds') [] [body] (.fn X d)) : FnA G (n + 1) (.ref f) ds kns kds d := .mk <| fun X A s E vs ks R hb hX ra rk => by
 have K₁ : G.K.In s.heap := G.X.keeps hb
 have rb := hrep X s.heap vs ks ra rk
 have hvl : (bv vs ks).length = ds'.length := rb.length
 have hkd : ∀ x ∈ ns.zip (bv vs ks), fd.scope.names.lookup x.1 = some .local ∨ (fd.scope.names.lookup x.1 = some .cell ∧ ((cellsFrom (s.heap.objs.size + 1) fd.scope.names []).lookup x.1).isSome = true) := fun x hx => by
  have hx1 : x.1 ∈ ns := (List.of_mem_zip (a := x.1) (b := x.2) hx).1
  have := List.all_eq_true.mp hkind x.1 hx1
  refine Or.elim (Bool.or_eq_true_iff.mp this) (fun q => ?_) (fun q => ?_)
  ·exact .inl (by simpa using q)
  ·have q' : fd.scope.names.lookup x.1 = some .cell := by simpa using q
   exact .inr ⟨q', cellsFrom_some _ _ _ (.inl q')⟩
 refine wpAny_call (codeAny_call_function R.depth (K₁ _ _ ho) rfl hco hgen hbody (codeRec_of K₁ hcd) (kp_binds K₁ (fun S => hbind S vs ks ra.length rk.length) _ _ _ _ ?_))
 rw [hclo]
 refine wpAny_newFunctionEnv_cells hk hkd fun env he s₁ C => ?_
 subst he
 have hg : Grow s s₁ := by refine el22 C.done fun h' tk y0 => ?_; subst y0; intro k; exact .of k
 refine ⟨(G.T.nolimit.keeps hb).keeps C.toInCall.keep, codeAny_func ?_⟩
 have hLs : ∀ b o, s.heap.get? b = some o → ¬ Mut (callEnvC fd s.heap.objs.size f) [] b := fun b o e q => by
  have hlt := Heap.lt_size e
  rcases q with q | ⟨y, q⟩ | q
  ·exact Nat.lt_irrefl _ (q ▸ hlt)
  ·exact absurd (C.above y b (mem_of_lookup q)) (Nat.not_lt.mpr (Nat.le_of_lt hlt))
  ·cases q
 have F : Fits G (callEnvC fd s.heap.objs.size f) X (ns.zip ds') [] s₁ := by
  refine ⟨fun b o e => hg.heap b o (hb b o e), hk, hgl, hbl, ⟨_, C.toInCall.ns⟩, fun x d' e => ?_, fun p hp => (nomatch hp), .nil, hX.keeps hg.heap, fun b o e => hLs b o (hb b o e), cells_mem_lookup C.apart, fun y c e => ⟨_, C.cell y c e⟩, fun p hp => (nomatch hp)⟩
  refine el12 (zip_lookup rb e) fun v hv hr => ?_
  have hnd' : ((ns.zip (bv vs ks)).map (·.1)).Nodup := by rw [List.map_fst_zip (by omega)]; exact hnd
  rcases hkd (x, v) (mem_of_lookup hv) with q | ⟨q, q2⟩
  ·exact .loc _ v q C.toInCall.ns (bindL_get hnd' q (.inl hv)) (hr.keeps hg.heap)
  ·refine el11 (Option.isSome_iff_exists.mp q2) fun c hc => ?_
   have := C.cell x c hc
   rw [bindC_get hnd' (by show fd.scope.names.lookup x ≠ _; rw [q]; decide) (.inl hv)] at this
   exact .cell c v (.inl q) hc this (hr.keeps hg.heap)
 refine wpAny_mono ((h X s.heap.objs.size).go X _ s₁ _ R.deeper (fun _ q => q) F) (fun fl s' q => ?_) fun _ _ y => y
 obtain ⟨t, q⟩ := q
 cases fl with
 | ret v =>
  obtain ⟨d', _, _, _, hB', r, e, _⟩ := q
  subst e
  refine ⟨r.sub hB', ?_⟩
  exact ⟨hg.same.trans t.same, fun b o e => t.heap b o (hLs b o e) (by have := C.toInCall.keep b o e; exact this)⟩
 | _ => obtain ⟨_, _, _, _, e, _⟩ := q; exact e.elim
theorem fnA_K {G : Gd} {n : Nat} {K : Frag} (hK : G.K = K) {f : Addr} {body : List Stmt} (ρ : Loc) {ds : List D} {kns : List Str} {kds : List D} {d : D} (bv : List Value → List Value → List Value)
  (ho : isFnAt K f = true) (hcd : codeIn K (fnAt K f).code (fnAt K f).qualname = true) (hbody : (fnAt K f).body = .stmts body)
  (hbind : ∀ S (vs ks : List Value), vs.length = ds.length → ks.length = kds.length → peek K S (bindArgs (fnAt K f) ⟨vs, kns.zip ks⟩) = some ((ρ.map (·.1)).zip (bv vs ks))) (hrep : ∀ X h vs ks, RepAll X h vs ds → RepAll X h ks kds → RepAll X h (bv vs ks) (ρ.map (·.2)))
  (hclo : (fnAt K f).closure = []) (hnd : noDup (ρ.map (·.1)) = true)
  (hkind : ((ρ.map (·.1)).all fun x => (fnAt K f).scope.names.lookup x == some .local || (fnAt K f).scope.names.lookup x == some .cell) = true)
  (hgl : (fnAt K f).globals = mainGlobals) (hbl : (fnAt K f).builtins = builtinsNs)
  (hco : (fnAt K f).scope.isCoroutine = false) (hgen : (fnAt K f).scope.isGenerator = false) (hk : (fnAt K f).scope.kind = .function)
  (h : ∀ X L, Ex G n (callEnvC (fnAt K f) L f) ρ [] [body] (.fn X d)) : FnA G (n + 1) (.ref f) ds kns kds d := by
 subst hK
 refine el31 (fnAt_of ho) fun oc od osl e => ?_
 refine fn_ofB bv e hcd hbody (ns := ρ.map (·.1)) (ds' := ρ.map (·.2)) hbind hrep hclo (nodup_of hnd) (by simp) hkind hgl hbl hco hgen hk ?_
 intro X L
 have : (ρ.map (·.1)).zip (ρ.map (·.2)) = ρ := by
  clear h hkind hnd hrep hbind
  induction ρ with
  | nil => rfl
  | cons x r ih => simp [List.zip_map']
 rw [this]; exact h X L
section
variable {G : Gd} {n : Nat} {env : Env} {ρ : Loc} {ow : Own}
theorem ev_callK {fe : Expr} {f : Addr} {e : Expr} {es : List Expr} {k : Str} {ke : Expr} {pos kp : Pos} {ds : List D} {kd d : D} (hf : Ev G n env ρ ow fe (.raw (.ref f))) (hk : keepIn G.K (.ref f) = true) (ha : EvAll G n env ρ ow (e :: es) ds) (hs : noStar (e :: es) = true) (hke : Ev G n env ρ ow ke kd)
  (h : FnA G n (.ref f) ds [k] [kd] d) (hattr : notAttr fe = true) : Ev G n env ρ ow (.Call fe (e :: es) [⟨some k, ke, kp⟩] pos) d := .mk <| fun X A s E R F => by
 have he : eval (.Call fe (e :: es) [⟨some k, ke, kp⟩] pos) env = (do callWith pos (← eval fe env) [] (backTo pos (starEach (e :: es) env)) (backToKw pos (keywordEach [⟨some k, ke, kp⟩] env))) := call_eq hattr
 rw [he]
 refine wpAny_bind (wpAny_mono (hf.go X A s E R F) (fun v s₁ q => ?_) fun _ _ x => x)
 obtain ⟨q, g⟩ := q
 refine Rep.eRaw q ?_
 have F₁ := F.keeps g
 refine callWith_KW (G.X.keeps F₁.base) hk rfl (wpAny_mono (ha.go pos X A s₁ E R F₁) (fun vs s₂ q₂ => ?_) fun _ _ x => x) (by rw [Bool.or_eq_false_iff]; exact ⟨by rw [starEach_cons hs]; exact backTo_any (noStar_tail hs), rfl⟩) (starEach_cons hs)
 have F₂ := F₁.keeps q₂.2
 have hback : (backToKw pos (keywordEach [⟨some k, ke, kp⟩] env)).map (·.2) = [(do let v ← eval ke env; standAt pos; pure v)] := rfl
 rw [hback]
 refine wpAny_evalAll_cons (wpAny_bind (wpAny_mono (hke.go X A s₂ E R F₂) (fun kv s₃ q₃ => wpAny_bind (wpAny_standAt (wpAny_pure (wpAny_evalAll_nil ?_)))) fun _ _ x => x))
 have F₃ := F₂.keeps q₃.2
 refine ⟨G.X.keeps F₃.base, ?_⟩
 have := h.go X A s₃ E vs [kv] R F₃.base F₃.live (q₂.1.keeps q₃.2.heap) (.cons q₃.1 .nil)
 exact wpAny_mono this (fun v s₄ q₄ => ⟨q₄.1, ((g.trans q₂.2).trans q₃.2).trans q₄.2⟩) fun _ _ x => x
end
section
variable {G : Gd} {n : Nat} {env : Env} {ρ : Loc} {ow : Own}
theorem tst_or_yes {e : Expr} {es : List Expr} {pos : Pos} (h : Tst G n env ρ ow e true) : Tst G n env ρ ow (.BoolOp .Or (e :: es) pos) true := by
 have := tst_or (c := true) (es := es) (pos := pos) h fun q => by injection q
 exact this
theorem tst_or_no {e : Expr} {es : List Expr} {pos : Pos} {c : Bool} (h : Tst G n env ρ ow e false) (r : Tst G n env ρ ow (.BoolOp .Or es pos) c) : Tst G n env ρ ow (.BoolOp .Or (e :: es) pos) c := by
 have := tst_or h fun _ => r
 simpa using this
theorem tst_and_no {e : Expr} {es : List Expr} {pos : Pos} (h : Tst G n env ρ ow e false) : Tst G n env ρ ow (.BoolOp .And (e :: es) pos) false := by
 have := tst_and (c := true) (es := es) (pos := pos) h fun q => by injection q
 exact this
theorem tst_and_yes {e : Expr} {es : List Expr} {pos : Pos} {c : Bool} (h : Tst G n env ρ ow e true) (r : Tst G n env ρ ow (.BoolOp .And es pos) c) : Tst G n env ρ ow (.BoolOp .And (e :: es) pos) c := by
 have := tst_and h fun _ => r
 simpa using this
theorem tstE {e : Expr} {b b' : Bool} (h : Tst G n env ρ ow e b) (q : b = b') : Tst G n env ρ ow e b' := q ▸ h
end
end
section
open Builtin Builtin.Str in
theorem translate_text {prog : Program} {w : World} {A : Around} {E : Value → Shared → Prop} {s : Shared} {c d : Nat} {da : Addr} {t : Tok} {P : PySem.Fin → Shared → Prop} (hc : c < 128)
  (h : ∀ (A : Around) (E : Value → Shared → Prop) (t0 : Nat) (Q : Mapped → Shared → Prop), (∀ tk, Q (.text (tx [92, c])) { s with toks := tk }) → wpAny (model prog w) A (tableLookup (.ref da) c) Q E { s with toks := t0 })
  (hP : ∀ t' tk, P (.done (.ret (.str (tx [92, c]) t'))) { s with toks := tk }) : wpAny (model prog w) A (Builtin.«str.translate» ⟨[.str (tx [c]) t, .ref da], []⟩) P E s := by
 unfold Builtin.«str.translate»
 refine wpAny_bind (wpAny_of_eq (a := (.str (tx [c]) t, tx [c], .ref da)) (by rfl) ?_)
 have h0 : tooLong 0 = false := by decide
 have h2 : tooLong 2 = false := by decide
 simp [hc, Str.length, h0]
 refine wpAny_bind (h _ _ s.toks _ fun tk => ?_)
 simp
 refine wpAny_bind (wpAny_rule (wpAny_bind (h _ _ _ _ fun tk => ?_)))
 simp [h2]
 refine wpAny_bind (wpAny_mkStr (wpAny_pure ?_) (by show 2 ≤ _; decide))
 exact hP _ _
open Builtin Builtin.Str in
theorem translate_keep {prog : Program} {w : World} {A : Around} {E : Value → Shared → Prop} {s : Shared} {c : Nat} {da : Addr} {t : Tok} {P : PySem.Fin → Shared → Prop} (hc : c < 128)
  (h : ∀ (A : Around) (E : Value → Shared → Prop) (Q : Mapped → Shared → Prop), A.handled = none → (∀ s', Grow s s' → Q .keep s') → wpAny (model prog w) A (tableLookup (.ref da) c) Q E s) (hA : A.handled = none)
  (hP : ∀ s', Grow s s' → ∀ t' tk, P (.done (.ret (.str (tx [c]) t'))) { s' with toks := tk }) : wpAny (model prog w) A (Builtin.«str.translate» ⟨[.str (tx [c]) t, .ref da], []⟩) P E s := by
 unfold Builtin.«str.translate»
 refine wpAny_bind (wpAny_of_eq (a := (.str (tx [c]) t, tx [c], .ref da)) (by rfl) ?_)
 have h0 : tooLong 0 = false := by decide
 have h1 : tooLong 1 = false := by decide
 simp [hc, Str.length, h0]
 refine wpAny_bind (h _ _ _ hA fun s' g => ?_)
 simp [h1]
 refine wpAny_bind (wpAny_mkStr (wpAny_pure ?_) (by show 1 ≤ _; decide))
 exact hP _ g _ _
open Builtin Builtin.Str in
theorem lookup_text {prog : Program} {w : World} {A : Around} {E : Value → Shared → Prop} {s : Shared} {c : Nat} {l : List Nat} {da : Addr} {t : Tok} {f : Int → Option Value} {Q : Mapped → Shared → Prop} (hm : s.heap.MapOf (intKind prog w) da f) (hv : f (c : Int) = some (.str (tx l) t))
  (hQ : ∀ tk, Q (.text (tx l)) { s with toks := tk }) : wpAny (model prog w) A (tableLookup (.ref da) c) Q E s := by
 unfold tableLookup
 refine wpAny_bind (wpAny_attempt (wpAny_bind (wpAny_mkInt (wpAny_getItem_of (intKind_is prog w _ _) (s := { s with toks := s.toks + 1 }) hm hv ?_))))
 dsimp only
 exact wpAny_pure (hQ _)
open Builtin Builtin.Str in
theorem lookup_keep {prog : Program} {w : World} {A : Around} {E : Value → Shared → Prop} {s : Shared} {c : Nat} {da : Addr} {f : Int → Option Value} {Q : Mapped → Shared → Prop} (hm : s.heap.MapOf (intKind prog w) da f) (hd : (da == sysModules) = false) (hh : A.handled = none) (hv : f (c : Int) = none)
  (hQ : ∀ s', Grow s s' → Q .keep s') : wpAny (model prog w) A (tableLookup (.ref da) c) Q E s := by
 unfold tableLookup
 refine wpAny_bind (wpAny_attempt (wpAny_bind (wpAny_mkInt (wpAny_getItem_missing_of (intKind_is prog w _ _) hd hh (s := { s with toks := s.toks + 1 }) hm hv fun h' e he => ?_))))
 dsimp only
 refine el23 he.there fun ob tt ho hcl hda => ?_
 refine wpAny_bind (wpAny_isInstance (T := "KeyError") (b := true) ⟨ob, ho, hcl⟩ (by rw [isSubtype_type]; kernel_rfl) ?_)
 rw [if_pos rfl]
 exact wpAny_bind (wpAny_rule (wpAny_pure (hQ _ ⟨.of, he.keeps⟩)))
noncomputable def dictEs (K : Frag) (a : Addr) : Array DictEntry := match K.lookup a with | some ⟨_, _, .dict es _, _⟩ => es | _ => #[]
noncomputable def isIntDict (K : Frag) (a : Addr) : Bool := match K.lookup a with
 | some ⟨.type "dict", none, .dict es _, sl⟩ => sl.isEmpty && es.toList.all fun e => match e.key with | .int k _ => e.hash == hashInt k | _ => false
 | _ => false
set_option tactic.hygienic true in
theorem intDict_map {K : Frag} {a : Addr} {h : Heap} {prog : Program} {w : World} (hK : K.In h) (hd : isIntDict K a = true) : h.MapOf (intKind prog w) a (findBy Value.isInt (dictEs K a)) := by
 unfold isIntDict at hd
 unfold dictEs
 split at hd
 ·rename_i es ep sl e
  simp only [Bool.and_eq_true, List.all_eq_true] at hd
  rw [e]
  have hsl : sl = #[] := by simpa using hd.1
  subst hsl
  refine ⟨_, es, ep, hK _ _ e, ⟨rfl, rfl, rfl⟩, rfl, fun en hen => ?_, fun k => rfl⟩
  have := hd.2 en (by simpa using hen)
  split at this
  ·rename_i k t hk
   exact ⟨k, by show Value.isInt k en.key = true; rw [hk]; simp [Value.isInt], by have h2 : en.hash = hashInt k := by simpa using this
                                                                                  exact h2⟩
  ·injection this
 ·injection hd
section
variable {G : Gd} {n : Nat}
theorem fn_translate_text {c : Nat} {da : Addr} (hc : c < 128) (hd : isIntDict G.K da = true) (hv : ∃ t, findBy Value.isInt (dictEs G.K da) (c : Int) = some (.str (tx [92, c]) t)) : FnIs G n (.builtin "str.translate") [.str [c], .raw (.ref da)] (.str [92, c]) := .mk fun X A s E vs R hb hX ra => by
 refine el23 ra.two fun _ _ y0 => ?_; subst y0; intro r r'
 refine Rep.eStr r fun _ => ?_; refine Rep.eRaw r' ?_
 refine el11 hv fun t hv => ?_
 refine wpAny_call_entry F.slot_str_translate (typeIs_str _ _ _) F.entry_str_translate ?_ (F.args_str_translate_2 _ _)
 exact translate_text (d := 0) hc (fun A E t0 Q hQ => lookup_text (s := { s with toks := t0 }) (intDict_map (G.X.keeps hb) hd) hv hQ) (fun t' tk => ⟨_, rfl, .str _ _, .toks _ _⟩)
theorem fn_translate_keep {c : Nat} {da : Addr} (hc : c < 128) (hs : (da == sysModules) = false) (hd : isIntDict G.K da = true) (hv : findBy Value.isInt (dictEs G.K da) (c : Int) = none) : FnIs G n (.builtin "str.translate") [.str [c], .raw (.ref da)] (.str [c]) := .mk fun X A s E vs R hb hX ra => by
 refine el23 ra.two fun _ _ y0 => ?_; subst y0; intro r r'
 refine Rep.eStr r fun _ => ?_; refine Rep.eRaw r' ?_
 refine wpAny_call_entry F.slot_str_translate (typeIs_str _ _ _) F.entry_str_translate ?_ (F.args_str_translate_2 _ _)
 refine translate_keep hc (fun A E Q hA hQ => lookup_keep (intDict_map (G.X.keeps hb) hd) hs hA hv hQ) R.hd (fun s' g t' tk => ⟨_, rfl, .str _ _, ?_⟩)
 exact g.trans (.toks _ _)
end
end
section
theorem l_ga : Slot "list" "__getattribute__" "list.__getattribute__" := .of (owner := "list") (n := "__getattribute__") (by rw [typeLookup_type, builtinLookup_eq_fast]; kernel_rfl) (by decide +kernel) (by decide +kernel) (by decide +kernel)
  (by first | exact .inl (by decide +kernel) | exact .inr (by decide +kernel)) (by rw [isSubtype_type]; kernel_rfl)
theorem l_entry : entryFor table "list.__getattribute__" = some Builtin.«object.__getattribute__» :=
 entryFor_alias (id' := "object.__getattribute__") (by kernel_rfl) (by first | rfl | decide +kernel) (by decide +kernel) (by kernel_rfl)
theorem l_args (a b : Value) : argsOk "list.__getattribute__" ⟨[a, b], []⟩ := by unfold argsOk; kernel_rfl
theorem l_append : typeLookup (.type "list") "append" = pure (some (.builtin "list.append")) := by rw [typeLookup_type, builtinLookup_eq_fast]; kernel_rfl
theorem md_get : Slot "method_descriptor" "__get__" "method_descriptor.__get__" := .of (owner := "method_descriptor") (n := "__get__") (by rw [typeLookup_type, builtinLookup_eq_fast]; kernel_rfl) (by decide +kernel) (by decide +kernel) (by decide +kernel)
  (by first | exact .inl (by decide +kernel) | exact .inr (by decide +kernel)) (by rw [isSubtype_type]; kernel_rfl)
theorem md_set : typeLookup (.type "method_descriptor") "__set__" = pure none := by rw [typeLookup_type, builtinLookup_eq_fast]; kernel_rfl
theorem md_del : typeLookup (.type "method_descriptor") "__delete__" = pure none := by rw [typeLookup_type, builtinLookup_eq_fast]; kernel_rfl
theorem md_entry : entryFor table "method_descriptor.__get__" = some Builtin.«method_descriptor.__get__» := entryFor_of_tree (by kernel_rfl)
theorem md_args (a b c : Value) : argsOk "method_descriptor.__get__" ⟨[a, b, c], []⟩ := by unfold argsOk; kernel_rfl
theorem append_ty : typeOf (.builtin "list.append") = pure (.type "method_descriptor") := by show builtinType _ = _; rw [builtinType_eq_fast]; kernel_rfl
theorem sub_list : isSubtype (.type "list") (.type "list") = pure true := by rw [isSubtype_type]; kernel_rfl
theorem append_owner : (".".intercalate ("list.append".cutAt '.').dropLast) = "list" := by
 have e0 : "list.append".cutAt '.' = ["list", "append"] := by first | rfl | decide +kernel
 rw [e0]; decide +kernel
noncomputable def bmObj (id : String) (a : Addr) : Obj := { cls := .type "builtin_function_or_method", data := .fields #[.builtin id, .ref a] }
theorem append_told : Manifest.toldItsClass.contains "list.append" = false := by decide +kernel
section
variable {prog : Program} {w : World} {A : Around} {E : Value → Shared → Prop} {h : Heap} {g : Array GenState} {d : Drawn} {t : Nat} {os : OsState} {a : Addr} {xs : Array Value} {n : Nat}
noncomputable abbrev lob (xs : Array Value) (n : Nat) : Obj := { cls := .type "list", data := .seq xs n }
set_option maxHeartbeats 1000000 in
theorem append_get {R : Result → Shared → Prop} (hx : h.get? a = some (lob xs n)) (hq : R (.ok (.ret (.ref h.objs.size))) ⟨h.push (bmObj "list.append" a), g, d, t, os⟩) :
  codeAny (model prog w) A (.call (.builtin "method_descriptor.__get__") ⟨[.builtin "list.append", .ref a, .type "list"], []⟩) R ⟨h, g, d, t, os⟩ := by
 have hT : (⟨h, g, d, t, os⟩ : Shared).TypeIs (.ref a) "list" := ⟨_, hx, rfl⟩
 have hT5 : (⟨h, g, d, t, os⟩ : Shared).TypeIs (.builtin "list.append") "method_descriptor" := append_ty
 have f8 : isSubtype (.type "list") (.type (".".intercalate ("list.append".cutAt '.').dropLast)) = pure true := by rw [append_owner]; exact sub_list
 refine codeAny_call_builtin md_get.plain md_entry (md_get.check _ _ _ _ _ _ _ _ hT5 (md_args _ _ _) ?_)
 unfold Builtin.«method_descriptor.__get__»
 refine wpAny_bind (wpAny_of_eq (a := (.builtin "list.append", some (.ref a), some (.type "list"))) (by first | rfl | kernel_rfl) ?_)
 dsimp only
 rw [append_told, if_neg Bool.false_ne_true]
 refine wpAny_bind ?_
 ·refine wpAny_bind (wpAny_of_eq (a := (("append" : Str), .type "list")) (by first | rfl | kernel_rfl) ?_)
  refine wpAny_bind (wpAny_isInstance (T := "list") (b := true) hT sub_list ?_)
  refine wpAny_pure ?_
  exact wpAny_bind (wpAny_newObj_type (wpAny_pure hq))
theorem append_entry {tk : Tok} {Q : PySem.Fin → Shared → Prop} (hx : h.get? a = some (lob xs n)) (hq : Q (.done (.ret (.ref h.objs.size))) ⟨h.push (bmObj "list.append" a), g, d, t, os⟩) :
  wpAny (model prog w) A (Builtin.«object.__getattribute__» ⟨[.ref a, .str "append" tk], []⟩) Q E ⟨h, g, d, t, os⟩ := by
 have hT : (⟨h, g, d, t, os⟩ : Shared).TypeIs (.ref a) "list" := ⟨_, hx, rfl⟩
 have hT5 : (⟨h, g, d, t, os⟩ : Shared).TypeIs (.builtin "list.append") "method_descriptor" := append_ty
 have f4 := l_append
 have f5 := append_ty
 have f6 := md_get.lookup
 have f7 := md_set
 have f8 := md_del
 repeat (any_goals (first | assumption | wp_step))
 refine append_get hx ?_
 repeat (any_goals (first | assumption | wp_step))
theorem append_call {tk : Tok} {R : Result → Shared → Prop} (hx : h.get? a = some (lob xs n)) (hq : R (.ok (.ret (.ref h.objs.size))) ⟨h.push (bmObj "list.append" a), g, d, t, os⟩) :
  codeAny (model prog w) A (.call (.builtin "list.__getattribute__") ⟨[.ref a, .str "append" tk], []⟩) R ⟨h, g, d, t, os⟩ :=
 codeAny_call_builtin l_ga.plain l_entry (l_ga.check _ _ _ _ _ _ _ _ (show (⟨h, g, d, t, os⟩ : Shared).TypeIs (.ref a) "list" from ⟨_, hx, rfl⟩) (l_args _ _) (append_entry hx hq))
theorem append_by {tk : Tok} {fill expr : Bool} {Q : Value → Shared → Prop} (hx : h.get? a = some (lob xs n)) (hq : Q (.ref h.objs.size) ⟨h.push (bmObj "list.append" a), g, d, t, os⟩) : wpAny (model prog w) A (getAttrBy (.ref a) (.str "append" tk) fill expr) Q E ⟨h, g, d, t, os⟩ := by
 have hT : (⟨h, g, d, t, os⟩ : Shared).TypeIs (.ref a) "list" := ⟨_, hx, rfl⟩
 have f2 := l_ga.lookup
 have f3 := l_ga.bind (.ref a)
 have hx0 : (expr && onTheHeap (Value.builtin "list.__getattribute__")) = false := by cases expr <;> rfl
 repeat (any_goals (first | assumption | wp_step))
 refine append_call hx ?_
 repeat (any_goals (first | assumption | wp_step))
theorem append_attr {expr : Bool} {Q : Value → Shared → Prop} (hx : h.get? a = some (lob xs n)) (hq : Q (.ref h.objs.size) ⟨h.push (bmObj "list.append" a), g, d, t + 1, os⟩) : wpAny (model prog w) A (getAttr (.ref a) "append" expr) Q E ⟨h, g, d, t, os⟩ := by
 unfold getAttr
 repeat (any_goals (first | assumption | with_reducible apply append_by hx | wp_step))
end
section
variable {prog : Program} {w : World} {A : Around} {E : Value → Shared → Prop} {s : Shared} {a q : Addr} {xs : Array Value} {n : Nat}
theorem sub_list_module : isSubtype (.type "list") (.type "module") = pure false := by rw [isSubtype_type]; kernel_rfl
theorem append_quiet {as : Args} : (Code.builtin "list.append" as).quiet = true := Code.quiet_builtin _ (by decide +kernel)
theorem append_tail (x y : Value) : (match Manifest.signature? "list.append" with | some sig => Bind.checkArgs "list.append" { sig with full := s!"{Bind.lastOf "list"}.{Bind.lastOf "list.append"}" } ⟨[x, y], []⟩ | none => pure ()) = pure () := by
 rw [signature?_of (id := "list.append") (n := ['d', 'n', 'e', 'p', 'p', 'a']) (o := ['t', 's', 'i', 'l']) (by kernel_rfl) F.owner_list]; kernel_rfl
theorem append_kind : builtinKind "list.append" = some .method := by decide +kernel
theorem append_varargs : Manifest.varargsMethods.contains "list.append" = false := by decide +kernel
theorem check_append {x : Value} {Q : Unit → Shared → Prop} (hT : s.TypeIs (.ref a) "list") (hx : s.heap.get? a = some (lob xs n)) (h : Q () s) : wpAny (model prog w) A (checkBoundCall "list.append" ⟨[.ref a, x], []⟩) Q E s := by
 have h2 := append_tail (.ref a) x
 unfold checkBoundCall
 cases h1 : Manifest.signature? "list.append" with
 | none => exact wpAny_pure h
 | some sig =>
 rw [h1] at h2
 dsimp only at h2 ⊢
 rw [append_kind]
 dsimp only
 rw [if_neg (by decide)]
 refine wpAny_bind (wpAny_isInstance (T := "list") (b := false) hT sub_list_module ?_)
 rw [append_varargs]
 simp only [Bool.or_self, Bool.false_eq_true, if_false]
 unfold isType
 refine wpAny_bind (wpAny_bind (m := loadHead a) (wpAny_load hx (wpAny_pure ?_)))
 dsimp only
 rw [if_neg Bool.false_ne_true]
 refine wpAny_bind (wpAny_typeOf hT ?_)
 exact wpAny_of_eq h2 h
theorem bm_append {x : Value} {Q : Value → Shared → Prop} {dd : Option Addr} {sl : Array (Option Value)} (hq : s.heap.get? q = some { cls := .type "builtin_function_or_method", dict := dd, data := .fields #[.builtin "list.append", .ref a], slots := sl }) (hx : s.heap.get? a = some (lob xs n)) (hsz : xs.size ≤ sizeLine)
  (h : ∀ h', h'.PlainList a (xs.push x) → Heap.SameBut a s.heap h' → Q .none { s with heap := h' }) : wpAny (model prog w) A (call (.ref q) [x]) Q E s := by
 refine wpAny_call (codeAny_of_tree ?_)
 show wpAny _ A.in1 (callAny (.ref q) ⟨[x], []⟩) _ _ s
 simp only [callAny]
 refine wpAny_bind (wpAny_load hq ?_)
 simp only [show (Value.type "builtin_function_or_method" == Value.type "method" || Value.type "builtin_function_or_method" == Value.type "builtin_function_or_method" || Value.type "builtin_function_or_method" == Value.type "method-wrapper") = true by decide, if_true]
 show wpAny _ A.in1 (if (Value.type "builtin_function_or_method" != Value.type "method") = true then (do checkBoundCall "list.append" ⟨[.ref a, x], []⟩; again (.builtin "list.append" ⟨[.ref a, x], []⟩)) else _) _ _ _
 rw [if_pos (by decide)]
 refine wpAny_bind (check_append ⟨_, hx, rfl⟩ hx ?_)
 refine wpAny_bind (wpAny_pure (wpAny_pure ?_))
 refine ⟨append_quiet, codeAny_builtin entry_list_append ?_⟩
 show wpAny _ _ (updateSeq a (·.push x) >>= fun _ => ret .none) _ _ s
 refine wpAny_bind ?_
 refine wpAny_updateSeq hx rfl (wpAny_pure (h _ ⟨n + 1, ?_⟩ (Heap.SameBut.update ..)))
 rw [Heap.get?_update_self _ hx (by rw [Obj.mapSeq_push_plain]; rfl), Obj.mapSeq_push_plain]
end
section
variable {G : Gd} {n : Nat} {env : Env} {ρ : Loc} {ow : Own} {bs : List (List Stmt)} {o : Out}
theorem ev_bound {oe : Expr} {apos : Pos} {a : Addr} {ds : List D} (he : eval (.Attribute oe "append" apos) env = (do
   let o ← eval oe env
   standAt apos.atName
   let r ← holding [o] (getAttr o "append" true)
   letTemporaryGo oe o r
   pure r)) (hg : ∀ o r, letTemporaryGo oe o r = pure ()) (ho : Ev G n env ρ ow oe (own a)) (ha : (a, OO.list ds) ∈ ow) : Ev G n env ρ ow (.Attribute oe "append" apos) (.bm "list.append" a) := .mk fun X A s E R F => by
 rw [he]
 refine wpAny_bind (wpAny_mono (ho.go X A s E R F) (fun v s₁ q => ?_) fun _ _ y => y)
 obtain ⟨q, g⟩ := q
 refine Rep.eRaw q ?_
 refine el12 (((F.keeps g).owns _ ha).1) fun vs y0 => ?_; refine el11 y0 fun k hl => ?_; intro ra
 obtain ⟨h, gn, dr, t, os⟩ := s₁
 refine wpAny_bind (wpAny_standAt (wpAny_bind (wpAny_holding (append_attr (xs := vs.toArray) (n := k) hl ?_))))
 refine wpAny_bind (wpAny_of_eq (hg _ _) (wpAny_pure ?_))
 have hX := (F.live.keeps g.heap).new
 refine ⟨.bm ⟨bmObj "list.append" a, Heap.get?_push_size _ rfl, rfl, rfl⟩ hX, g.trans ?_⟩
 exact ⟨.of, fun _ _ e => Heap.get?_push_of_some _ e⟩
theorem callWith_bm {prog : Program} {w : World} {A : Around} {E : Value → Shared → Prop} {s : Shared} {env : Env} {pos : Pos} {u a : Addr} {e : Expr} {Q : Value → Shared → Prop} (hs : noStar [e] = true)
  (h : wpAny (model prog w) A (spliced (backTo pos (starEach [e] env))) (fun vs s₁ => IsBM s₁.heap u "list.append" a ∧ wpAny (model prog w) A (call (.ref u) vs) Q E s₁) E s) :
  wpAny (model prog w) A (callWith pos (.ref u) [] (backTo pos (starEach [e] env)) []) Q E s := by
 rw [starEach_cons hs] at h ⊢
 have hE : wpAny (model prog w) A (evalArgs (.ref u) true (backTo pos ((false, eval e env) :: starEach [] env)) []) (fun x s₁ => IsBM s₁.heap u "list.append" a ∧ wpAny (model prog w) A (call (.ref u) ([] ++ x.pos) x.kw) Q E s₁) E s := by
  refine evalArgs_plain ?_
  exact h
 unfold callWith
 refine wpAny_bind (wpAny_holding (wpAny_mono hE (fun x s₁ h₁ => wpAny_bind (wpAny_standAt ?_)) fun _ _ x => x))
 refine el02 h₁ fun y0 => ?_; refine el13 y0 fun ob ho hc hd => ?_; intro hcall
 obtain ⟨cls, dd, data, sl⟩ := ob
 simp only at hc hd
 subst hc hd
 have hplain : (backTo pos ((false, eval e env) :: starEach [] env)).any (·.1) = false := rfl
 simp only [hplain, List.any_nil, Bool.or_false]
 refine wpAny_bind (m := keeperOf (.ref u)) ?_
 unfold keeperOf
 refine wpAny_bind (wpAny_load ho ?_)
 simp only [show (Value.type "builtin_function_or_method" != Value.type "method") = true by decide, show (Value.type "builtin_function_or_method" == Value.type "builtin_function_or_method" || Value.type "builtin_function_or_method" == Value.type "method-wrapper") = true by decide, if_true]
 refine wpAny_pure ?_
 exact wpAny_bind (wpAny_mono hcall (fun r s₂ hr => wpAny_bind (wpAny_holding (wpAny_point (wpAny_pure hr)))) fun _ _ x => x)
theorem ex_add {fe e : Expr} {cpos pos : Pos} {rest : List Stmt} {a : Addr} {ds : List D} {d : D} {ow' : Own} (hattr : notAttr fe = true) (ho : Ev G n env ρ ow fe (.bm "list.append" a)) (hx : OSet a (.list ds) (.list (ds ++ [d])) ow ow') (he : EvAll G n env ρ ow [e] [d]) (hs : noStar [e] = true) (hsz : ds.length ≤ sizeLine)
  (hi : interactive env = false) (hsw : swapsWith (.Call fe [e] [] cpos) none pos.line env = pure false)
  (h : Ex G n env ρ ow' (rest :: bs) o) : Ex G n env ρ ow ((.Expr (.Call fe [e] [] cpos) pos :: rest) :: bs) o := .mk <| fun X A s E R B F => by
 refine wpAny_execs_cons (wpAny_Expr_any (Call_ (wpAny_mono (ho.go X A s E R F) (fun v s₁ q => ?_) fun _ _ x => x) (call_eq hattr)) hi hsw)
 obtain ⟨q, g⟩ := q
 refine Rep.eBm q @fun u hb hqX => ?_
 have F₁ := F.keeps g
 refine callWith_bm (a := a) hs (wpAny_mono (he.go cpos X A s₁ E R F₁) (fun vs s₂ q₂ => ?_) fun _ _ x => x)
 obtain ⟨q₂, g₂⟩ := q₂
 have hb₂ : IsBM s₂.heap u "list.append" a := by refine el12 hb fun ob e1 e2 => ?_; exact ⟨ob, g₂.heap _ _ e1, e2⟩
 refine ⟨hb₂, ?_⟩
 refine el12 q₂.one fun xv y0 => ?_; subst y0; intro r
 have F₂ := F₁.keeps g₂
 refine el12 ((F₂.owns _ hx.mem).1) fun vs y0 => ?_; refine el11 y0 fun k hl => ?_; intro ra
 refine el13 hb₂ fun y0 => ?_; obtain ⟨cls, dd, data, sl⟩ := y0; intro ho' hc hd
 simp only at hc hd
 subst hc hd
 refine bm_append (xs := vs.toArray) (n := k) ho' hl (by rw [List.size_toArray, ra.length]; exact hsz) fun h' hl' hs' => ?_
 have haX := (F₂.owns _ hx.mem).2
 have hm : Same X s₂.heap h' := .of_but hs' (.inl haX)
 have e1 : vs.toArray.push xv = (vs ++ [xv]).toArray := by simp
 rw [e1] at hl'
 have F₃ : Fits G env X ρ ow' { s₂ with heap := h' } := F₂.setOwn (tk := s₂.toks) hx hs' ⟨vs ++ [xv], hl', (ra.mono hm).append (.cons (r.mono hm) .nil)⟩
 exact h.from R B F₃ ((g.trans g₂).turn.trans (.but (t := s₂.toks) hs' (.inr (.inr (List.mem_map.mpr ⟨_, hx.mem, rfl⟩))))) fun b q => .inl (mut_same hx.keys q)
end
theorem ex_freeze_head {G : Gd} {n : Nat} {env : Env} {ρ : Loc} {ow : Own} {bs : List (List Stmt)} {o : Out} (x : Str) {a : Addr} {ds : List D} (hx : ρ.lookup x = some (own a)) (hb : a ∉ o.base) (h : Ex G n env ((x, .list ds) :: ρ) ow bs o) : Ex G n env ρ ((a, .list ds) :: ow) bs o := .mk fun X A s E R B F => by
 have hn : a ∉ ow.map (·.1) := (List.nodup_cons.mp F.nd).1
 exact (ex_freeze (ow := (a, .list ds) :: ow) x hx (List.mem_cons_self ..) (fun p hp => List.mem_cons_of_mem _ hp) hn (fun h => (List.nodup_cons.mp h).2) hb h).go X A s E R B F
end
section
theorem cmp_notin_str {l : List Nat} {c : Nat} : CmpIs .NotIn (.str [c]) (.str l) (!decide (c ∈ l)) := .mk <| fun prog w X A s E v₁ v₂ _ r₁ r₂ => by
 refine Rep.eStr r₁ fun _ => ?_; refine Rep.eStr r₂ fun _ => ?_
 refine notIn_str ⟨?_, .refl _⟩
 congr 2
 exact (StrLaws.found_one (tx l) c)
end
section
noncomputable def pit : OO := .pit fun _ _ => none
structure GrowBut (a : Addr) (s s' : Shared) : Prop where
 same : Kin s s'
 heap : ∀ b o, b ≠ a → s.heap.get? b = some o → s'.heap.get? b = some o
 there : ∀ o, s.heap.get? a = some o → ∃ o', s'.heap.get? a = some o'
theorem OSet.self {a : Addr} {o : OO} : ∀ {ow : Own}, (a, o) ∈ ow → OSet a o o ow ow
 | p :: ow, h => by
  by_cases q : p = (a, o)
  ·subst q; exact .head _
  ·exact .tail _ (OSet.self ((List.mem_cons.mp h).resolve_left fun z => q z.symm))
theorem Fits.butAt {G : Gd} {env : Env} {X : List Addr} {ρ : Loc} {ow : Own} {s s' : Shared} {a : Addr} {o : OO} (F : Fits G env X ρ ow s) (hm : (a, o) ∈ ow) (k : GrowBut a s s') (hn : OOIs X s'.heap a o) : Fits G env X ρ ow s' ∧ Turn env ow s s' := by
 refine el11 (own_there (F.owns _ hm).1) fun ob e => ?_
 refine el11 (k.there _ e) fun ob' e' => ?_
 have hup : ∀ b, b ≠ a → (s'.heap.update a fun _ => ob).get? b = s'.heap.get? b := fun b q => Heap.get?_update_ne _ _ _ _ q
 have hself : (s'.heap.update a fun _ => ob).get? a = some ob := Heap.get?_update_self _ e' (Heap.get?_some_iff.mp e).2
 have g : Grow s { s' with heap := s'.heap.update a fun _ => ob } := ⟨⟨k.same.os, k.same.bare⟩, fun b o eb => by
  by_cases q : b = a
  ·subst q; rw [e] at eb; (injection eb with y0; subst y0); exact hself
  ·exact (hup b q).trans (k.heap b o q eb)⟩
 have F₁ := F.keeps g
 have hsz : (s'.heap.update a fun _ => ob).objs.size = s'.heap.objs.size := by simp [Heap.update]
 refine ⟨F₁.setOwn (tk := s'.toks) (OSet.self hm) ⟨hsz.symm, fun b q => (hup b q).symm⟩ hn, ⟨k.same, fun b o hb eb => k.heap b o (fun q => hb (.inr (.inr (List.mem_map.mpr ⟨_, hm, q.symm⟩)))) eb⟩⟩
section
variable {G : Gd} {n : Nat} {env : Env} {ρ : Loc} {ow : Own} {bs : List (List Stmt)} {o : Out}
end
section
variable {G : Gd} {n : Nat} {env : Env} {ρ : Loc} {ow : Own} {bs : List (List Stmt)} {o : Out}
end
end
section
noncomputable def FnTold (qual : Str) (params : Arguments) (body : FuncBody) (scope : Scope) (clos : List (Str × Addr)) (fd : FuncData) : Prop :=
 fd.qualname = qual ∧ fd.params = params ∧ fd.body = body ∧ fd.scope = scope ∧ fd.globals = mainGlobals ∧ fd.closure = clos ∧ fd.defaults = .none ∧ fd.kwdefaults = .none ∧ fd.builtins = builtinsNs
set_option tactic.hygienic true in
theorem among_app {pos : Pos} {a b : Nat} {c cv : Value} (l : List Value) (h : TriplesOk l) (e : codeAmong pos (l ++ [rawInt a, rawInt b, c]) = some cv) : codeAmong pos l = some cv ∨ (pos.line = a ∧ pos.col = b ∧ cv = c) := by
 fun_induction TriplesOk l with
 | case1 =>
  simp only [List.nil_append, codeAmong, rawInt] at e
  split at e
  ·rename_i hc
   simp only [Bool.and_eq_true, beq_iff_eq] at hc
   exact .inr ⟨by omega, by omega, (Option.some.inj e).symm⟩
  ·injection e
 | case2 a' t b' u x rest ih =>
  simp only [List.cons_append, codeAmong] at e ⊢
  split at e
  ·rename_i hc; rw [if_pos hc]; exact .inl e
  ·rename_i hc; rw [if_neg hc]; exact ih h e
 | case3 l h1 h2 => exact h.elim
theorem tail_fn {M : Model} {A : Around} {E : Value → Shared → Prop} {s : Shared} {name qual : Str} {params : Arguments} {body : FuncBody} {scope : Scope} {env : Env} {P : Addr} {pos : Pos} {firstLine : Nat} {mg : Str → Option Value}
  {clos : List (Str × Addr)} {Q : Value → Shared → Prop} (hcl : closureFor scope env = pure clos) (hge0 : env.globals = mainGlobals) (hg : s.heap.Ns mainGlobals mg) (hgP : mainGlobals ≠ P) (hb : s.heap.BuiltinsAt mg P)
  (hcode : ∀ (h₁ : Heap) (tk : Nat) (Q' : Value → Shared → Prop), (∀ b o, s.heap.get? b = some o → h₁.get? b = some o) → s.heap.objs.size ≤ h₁.objs.size →
   (∀ cv h' tk', Heap.ExtBut P h₁ h' → h₁.objs.size ≤ h'.objs.size → (∀ fo tk'', (∀ fd, fo = ({ cls := .type "function", data := .func fd } : Obj) → FnTold qual params body scope clos fd → fd.code = cv → Q (.ref h'.objs.size) { s with heap := h'.push fo, toks := tk'' })) → Q' cv { s with heap := h', toks := tk' }) →
   wpAny M A (functionCode env pos firstLine name qual params scope body) Q' E { s with heap := h₁, toks := tk }) :
  wpAny M A (makeTail name qual params body scope env .none .none none pos firstLine) Q E s := by
 obtain ⟨bm, ob, hbm, hne0, _, hneP, hbo, hcls, hdict, hdata⟩ := hb
 unfold makeTail
 rw [hcl, hge0]
 refine wpAny_bind (wpAny_pure ?_)
 have fin : ∀ (h₁ : Heap) (tk : Nat) (ctv : Value), (∀ b o, s.heap.get? b = some o → h₁.get? b = some o) → s.heap.objs.size ≤ h₁.objs.size → wpAny M A (do
   let cv ← functionCode env pos firstLine name qual params scope body
   let bl ← builtinsFor mainGlobals env.builtins
   let nm ← nsGet mainGlobals "__name__"
   match body with
    | .stmts b => do
     let doc ← (match docOf b with | some s => mkText s | none => pure .none)
     newObj (.type "function") (.func { name, qualname := qual, params, body, scope, globals := mainGlobals, closure := clos, closureTuple := ctv, code := cv, builtins := bl, defaults := .none, kwdefaults := .none, annotations := none, pyModule := nm.getD .none, doc })
    | .expr _ => do
     let doc ← pure .none
     newObj (.type "function") (.func { name, qualname := qual, params, body, scope, globals := mainGlobals, closure := clos, closureTuple := ctv, code := cv, builtins := bl, defaults := .none, kwdefaults := .none, annotations := none, pyModule := nm.getD .none, doc })) Q E { s with heap := h₁, toks := tk } := fun h₁ tk ctv k hsz => by
  refine wpAny_bind (hcode h₁ tk _ k hsz fun cv h' tk' hx _ hQ => ?_)
  have hg' : h'.Ns mainGlobals mg := (hg.keeps k).extBut hx hgP
  refine wpAny_bind (wpAny_builtinsFor (s := { s with heap := h', toks := tk' }) hg' hbm hne0 (hx _ _ hneP (k _ _ hbo)) hcls hdict hdata ?_)
  refine wpAny_bind (wpAny_nsGet (s := { s with heap := h', toks := tk' }) hg' ?_)
  cases body with
  | expr e => exact wpAny_bind (wpAny_pure (wpAny_newObj_type (hQ _ tk' _ rfl ⟨rfl, rfl, rfl, rfl, rfl, rfl, rfl, rfl, rfl⟩ rfl) (by size_fits)))
  | stmts b =>
   cases hdoc : docOf b with
   | none => dsimp only; rw [hdoc]; exact wpAny_bind (wpAny_pure (wpAny_newObj_type (hQ _ tk' _ rfl ⟨rfl, rfl, rfl, rfl, rfl, rfl, rfl, rfl, rfl⟩ rfl) (by size_fits)))
   | some t => dsimp only; rw [hdoc]; exact wpAny_bind (wpAny_mkText (wpAny_newObj_type (hQ _ _ _ rfl ⟨rfl, rfl, rfl, rfl, rfl, rfl, rfl, rfl, rfl⟩ rfl) (by size_fits)))
 cases clos with
 | nil =>
  simp only [List.isEmpty_nil, if_true]
  refine wpAny_bind (wpAny_pure ?_)
  exact fin s.heap s.toks _ (fun _ _ e => e) (Nat.le_refl _)
 | cons q r =>
  simp only [List.isEmpty_cons, Bool.false_eq_true, if_false]
  refine wpAny_bind (wpAny_newTextTuple ?_)
  exact fin _ s.toks _ (fun b o e => Heap.get?_push_of_some _ e) (by rw [Heap.size_push]; omega)
section
variable {G : Gd} {env : Env} {X : List Addr} {ρ : Loc} {ow : Own} {s : Shared}
theorem mk_fn {A : Around} {E : Value → Shared → Prop} {Q : Value → Shared → Prop} {f : Nat → Nat → Option Str} {c P : Addr} {name qual : Str} {params : Arguments} {body : FuncBody} {scope : Scope} {clos : List (Str × Addr)} {pos : Pos} {firstLine : Nat}
  (F : Fits G env X ρ ow s) (hc : env.code = .ref c) (hC : codeHdIn G.K c P = true) (hm : (P, OO.pit f) ∈ ow) (hq : ∀ q, f pos.line pos.col = some q → q = qual) (hcl : closureFor scope env = pure clos)
  (h : ∀ v s', Fits G env X ρ ow s' → Turn env ow s s' → (∃ fa fo, v = .ref fa ∧ s'.heap.get? fa = some fo ∧ fo.cls = .type "function" ∧ fa ∉ X ∧ s.heap.get? fa = none ∧ (f pos.line pos.col = some qual → Rep X s'.heap v (.fn (FnTold qual params body scope clos) qual))) → Q v s') :
  wpAny (model G.prog G.w) A (makeFunction name qual params body scope env [] [] [] pos firstLine) Q E s := by
 refine el13 ((F.owns _ hm).1) fun ps hP ht hr => ?_
 have hPX := (F.owns _ hm).2
 have C : CodeHd s.heap c P := codeHd_of_K (G.X.keeps F.base) hC
 have hgs := G.T.g.keeps F.base
 refine el26 G.T.bmain fun bm ob b1 b2 b3 b4 b5 b6 => ?_
 have hgP : mainGlobals ≠ P := fun q => by
  refine el33 hgs fun o es ep e hd _ => ?_
  rw [q, show s.heap.get? P = _ from hP] at e; (injection e with y0; subst y0); injection hd
 have hbP : bm ≠ P := fun q => by
  have e := F.base _ _ b3
  rw [q, show s.heap.get? P = _ from hP] at e; (injection e with y0; subst y0); injection b4
 have hbG : bm ≠ mainGlobals := fun q => by
  refine el33 G.T.g fun o es ep e hd _ => ?_
  rw [q, e] at b3; (injection b3 with y0; subst y0); rw [hd] at b6; injection b6
 rw [makeFunction_eq]
 simp only [List.zip_nil_right, List.filterMap_nil, List.isEmpty_nil, if_true, pure_bind]
 refine tail_fn hcl F.gl hgs hgP ⟨bm, ob, b1, b2, hbG, hbP, F.base _ _ b3, b4, b5, b6⟩ fun h₁ tk Q' k hsz hQ' => ?_
 have nX : ∀ a, s.heap.objs.size ≤ a → a ∉ X := fun a ha q => by
  refine el11 (F.live a q) fun o e => ?_; exact absurd (Heap.lt_size e) (Nat.not_lt.mpr ha)
 have nN : ∀ a, s.heap.objs.size ≤ a → s.heap.get? a = none := fun a ha => none_at ha
 cases hf : codeAmong pos ps.toList with
 | some cv =>
  refine wpAny_functionCode_hit (s := { s with heap := h₁, toks := tk }) hc ((C.keeps k).code (k _ _ hP) ht) hf (hQ' cv h₁ tk (fun _ _ _ e => e) (Nat.le_refl _) fun fo tk'' fd hfo hT hcd => ?_)
  have g : Grow s { s with heap := h₁.push fo, toks := tk'' } := .of fun b o e => Heap.get?_push_of_some _ (k b o e)
  subst hfo
  refine h _ _ (F.keeps g) g.turn ⟨_, _, rfl, Heap.get?_push_size _ rfl, rfl, nX _ hsz, nN _ hsz, fun z => ?_⟩
  refine .fn (Heap.get?_push_size _ rfl) rfl rfl hT (nX _ hsz) ?_
  rw [hcd]
  exact (hr pos cv qual hf z).keeps g.heap
 | none =>
  refine wpAny_functionCodeX (s := { s with heap := h₁, toks := tk }) hc ((C.keeps k).code (k _ _ hP) ht) ((C.keeps k).tab (k _ _ hP)) hf fun c' h' tk' hx hge hlt _ hrec htb hP' => ?_
  refine el13 hP' fun P' _ _ y0 => ?_; refine el02 y0 fun y0 => ?_; refine el24 y0 fun oc vs e1 e2 e3 _ => ?_; intro _
  refine el44 hrec fun c₂ oc₂ vs₂ t₂ e₂ g₂ d₂ q₂ => ?_
  (injection e₂ with y0; subst y0)
  rw [g₂] at e1; (injection e1 with y0; subst y0)
  rw [d₂] at e3; (injection e3 with y0; subst y0)
  have hge' : s.heap.objs.size ≤ c' := Nat.le_trans hsz hge
  have hszP : h₁.objs.size ≤ h'.objs.size := Nat.le_trans hge (Nat.le_of_lt hlt)
  refine hQ' (.ref c') h' tk' hx hszP fun fo tk'' fd hfo hT hcd => ?_
  have kk : ∀ b o, b ≠ P → s.heap.get? b = some o → (h'.push fo).get? b = some o := fun b o hb e => Heap.get?_push_of_some _ (hx b o hb (k b o e))
  have gb : GrowBut P s { s with heap := h'.push fo, toks := tk'' } := ⟨.of, kk, fun _ _ => ⟨_, Heap.get?_push_of_some _ htb.2⟩⟩
  have hsame : Same X s.heap (h'.push fo) := fun b o hb _ e => kk b o (fun q => hb (q ▸ hPX)) e
  have hcode : Rep X (h'.push fo) (.ref c') (.code qual) := .code (Heap.get?_push_of_some _ g₂) e2 d₂ q₂ (nX _ hge')
  refine el02 (F.butAt hm gb ⟨_, Heap.get?_push_of_some _ htb.2, by
   rw [Array.toList_append]; exact TriplesOk_snoc _ _ _ _ ht, fun pos' cv q h1 h2 => by
    rw [Array.toList_append] at h1
    rcases among_app _ ht h1 with h3 | ⟨h3, h4, rfl⟩
    ·exact (hr pos' cv q h3 h2).mono hsame
    ·rw [h3, h4] at h2
     rw [hq q h2]; exact hcode⟩) fun F' t' => ?_
  subst hfo
  refine h _ _ F' t' ⟨_, _, rfl, Heap.get?_push_size _ rfl, rfl, nX _ (Nat.le_trans hsz hszP), nN _ (Nat.le_trans hsz hszP), fun z => ?_⟩
  refine .fn (Heap.get?_push_size _ rfl) rfl rfl hT (nX _ (Nat.le_trans hsz hszP)) ?_
  rw [hcd]; exact hcode
theorem lam_made {A : Around} {E : Value → Shared → Prop} {Q : Value → Shared → Prop} {f : Nat → Nat → Option Str} {c P : Addr} {params : Arguments} {body : Expr} {scope : Scope} {clos : List (Str × Addr)} {pos : Pos}
  (F : Fits G env X ρ ow s) (hc : env.code = .ref c) (hC : codeHdIn G.K c P = true) (hm : (P, OO.pit f) ∈ ow) (hq : ∀ q, f pos.line pos.col = some q → q = env.qual ++ "<lambda>") (hcl : closureFor scope env = pure clos) (hdef : defaultsOf params env = ([], []))
  (h : ∀ v s', Fits G env X ρ ow s' → Turn env ow s s' → (∃ fa fo, v = .ref fa ∧ s'.heap.get? fa = some fo ∧ fo.cls = .type "function" ∧ fa ∉ X ∧ s.heap.get? fa = none) → Q v s') :
  wpAny (model G.prog G.w) A (eval (.Lambda params body scope pos) env) Q E s := by
 refine kla_eval hdef (mk_fn F hc hC hm hq hcl fun v s' F' t' ⟨fa, fo, e1, e2, e3, e4, e5, _⟩ => h v s' F' t' ⟨fa, fo, e1, e2, e3, e4, e5⟩)
end
end
section
open PySem.Sre PySem.Builtin.Re
noncomputable def twCode : Array Nat := #[14, 14, 4, 1, 1, 9, 0, 64, 0, 1342177280, 0, 0, 0, 0, 0, 17, 0, 13, 11, 9, 0, 64, 0, 1342177280, 0, 0, 0, 0, 0, 17, 1, 1]
noncomputable def dull (c : Nat) : Bool := !(decide (c < 256) && (twCode.getD (6 + c / 32) 0).testBit (c % 32))
theorem inSet_dull {c : Nat} (h : dull c = true) (seen : Sre.Seen) : ∃ seen', inSet twCode c twCode.size 5 true seen = .ok (false, seen') := by
 have h' : (decide (c < 256) && (twCode.getD (5 + (1 + c / 32)) 0).testBit (c % 32)) = false := by
  have : 5 + (1 + c / 32) = 6 + c / 32 := by omega
  rw [this]; unfold dull at h; simpa only [Bool.not_eq_true'] using h
 have e1 : twCode.size = 31 + 1 := rfl
 rw [e1]
 refine ⟨(seen.add 9).add 0, ?_⟩
 have key : inSet twCode c (31 + 1) 5 true seen = if (decide (c < 256) && (twCode.getD (5 + (1 + c / 32)) 0).testBit (c % 32)) = true then .ok (true, seen.add 9) else inSet twCode c 31 14 true (seen.add 9) := by rfl
 rw [key, h', if_neg Bool.false_ne_true]
 rfl
theorem admitted_none {m : M} (hc : m.code = twCode) (hd : ∀ s, s < m.lim → dull (m.text.getD s 0) = true) : ∀ (fuel s : Nat) (seen : Sre.Seen), ∃ seen', M.admitted m fuel s seen = .ok (none, seen')
 | 0, s, seen => ⟨seen, rfl⟩
 | fuel + 1, s, seen => by
  unfold M.admitted
  by_cases h : s ≥ m.lim
  ·rw [if_pos h]; exact ⟨_, rfl⟩
  ·rw [if_neg h, hc]
   refine el11 (inSet_dull (hd s (by omega)) seen) fun seen' e => ?_
   rw [e]
   exact admitted_none hc hd fuel (s + 1) seen'
theorem attempt_none {m : Sre.M} (hc : m.code = twCode) (hd : ∀ s, s < m.lim → dull (m.text.getD s 0) = true) (hf : m.frames = []) (ho : m.outcome = none) : (m.attemptFrom 0 true).answer = some false ∧ (m.attemptFrom 0 true).frames = [] ∧ (m.attemptFrom 0 true).outcome = none := by
 have hfs : m.hasFirstSet = true := by unfold M.hasFirstSet; rw [hc]; rfl
 unfold M.attemptFrom
 rw [hfs]
 refine el11 (admitted_none hc hd (m.lim + 1 - 0) 0 m.seen) fun seen' e => ?_
 rw [if_neg (by decide), e]
 exact ⟨rfl, hf, ho⟩
theorem search_none {text : Array Nat} (hd : ∀ s, s < text.size → dull (text.getD s 0) = true) : (forSearch twCode text 1 0 text.size false).answer = some false ∧ (forSearch twCode text 1 0 text.size false).frames = [] ∧ (forSearch twCode text 1 0 text.size false).outcome = none := by
 unfold forSearch
 dsimp only
 split
 ·exact ⟨rfl, rfl, rfl⟩
 ·exact attempt_none rfl hd rfl rfl
section
variable {M : Model} {A : Around} {E : Value → Shared → Prop} {s : Shared}
theorem rules_any {α : Type} (l : List α) (f : α → PUnit → Sem (ForInStep PUnit)) (hf : ∀ a Q, Q (ForInStep.yield PUnit.unit) s → wpAny M A (f a PUnit.unit) Q E s) {Q : PUnit → Shared → Prop} (h : Q PUnit.unit s) : wpAny M A (forIn l PUnit.unit f) Q E s := by
 induction l with
 | nil => exact wpAny_pure h
 | cons a l ih =>
  rw [List.forIn_cons]
  exact wpAny_bind (hf a _ ih)
theorem run_none {m : Sre.M} {Q : Option Sre.M → Shared → Prop} (h1 : m.answer = some false) (h2 : m.frames = []) (h3 : m.outcome = none) (h : Q none s) : wpAny M A (reRunToEnd m) Q E s := by
 have hrun : m.runFor 4 = { m with outcome := some .failed } := by
  have hs : m.step = { m with outcome := some .failed } := by
   unfold Sre.M.step
   rw [h3, h1, h2]; rfl
  show Sre.M.runFor (3 + 1) m = _
  unfold Sre.M.runFor
  rw [h3, hs]; rfl
 unfold reRunToEnd
 refine wpAny_bind ?_
 have e : (2 : Nat) ^ 64 = (2 ^ 64 - 1) + 1 := by decide
 rw [e]
 unfold reDrive
 show wpAny M A (if (m.runFor 4).outcome.isSome = true then _ else _) _ _ _
 rw [hrun]
 refine wpAny_pure ?_
 refine wpAny_bind ?_
 have hrun' : m.runFor reTurnSteps = { m with outcome := some .failed } := hrun
 refine rules_any _ _ (fun a Q' hq => ?_) (by rw [hrun']; exact wpAny_pure h)
 split
 ·exact wpAny_bind (wpAny_rule (wpAny_pure hq))
 ·first | exact wpAny_pure hq | exact wpAny_bind (wpAny_pure (wpAny_pure hq))
end
end
section
open PySem.Builtin.Re
structure IsTwin (h : Heap) (p q : Addr) : Prop where
 pat : ∃ fs dd sl, h.get? p = some ⟨.type "re.Pattern", dd, .fields fs, sl⟩ ∧ fs.getD 5 .none = .ref q ∧ reRawNat (fs.getD 6 .none) = 0 ∧ reRawNat (fs.getD 2 .none) = 1
 code : ∃ oq items n, h.get? q = some oq ∧ oq.data = .seq items n ∧ (items.map reRawOf).map (·.toNat) = twCode
theorem IsTwin.keeps {h h' : Heap} {p q : Addr} (x : IsTwin h p q) (k : ∀ b o, h.get? b = some o → h'.get? b = some o) : IsTwin h' p q :=
 ⟨let ⟨fs, dd, sl, e, r⟩ := x.pat; ⟨fs, dd, sl, k _ _ e, r⟩, let ⟨oq, i, n, e, r⟩ := x.code; ⟨oq, i, n, k _ _ e, r⟩⟩
section
variable {M : Model} {A : Around} {E : Value → Shared → Prop} {s : Shared} {p q : Addr} {l : List Nat} {t : Tok}
theorem target_is {Q : ReTarget → Shared → Prop} (h : IsTwin s.heap p q) (hQ : Q { pattern := .ref p, string := .str (tx l) t, code := twCode, text := l.toArray, kind := 0, groups := 1, pos := 0, lim := l.toArray.size } s) : wpAny M A (reWholeTarget (.ref p) (.str (tx l) t)) Q E s := by
 refine el34 h.pat fun fs dd sl ho h5 h6 h2 => ?_
 refine el33 h.code fun oq items n hoq hdq hcode => ?_
 unfold reWholeTarget
 refine wpAny_bind (wpAny_fieldsOf ho rfl ?_)
 refine wpAny_bind (wpAny_of_eq (a := (l.toArray, 0)) (by rfl) ?_)
 dsimp only
 rw [h6, h5, h2]
 simp only [show ((0 : Nat) == 1) = false from rfl, Bool.and_false, Bool.false_and, Bool.false_eq_true, if_false]
 refine wpAny_bind (wpAny_of_eq (a := ()) (by rfl) ?_)
 refine wpAny_bind ?_
 unfold reRawItems
 refine wpAny_bind (wpAny_seqItems hoq hdq ?_)
 refine wpAny_pure ?_
 refine wpAny_pure ?_
 rw [show ((some items).getD #[]) = items from rfl, hcode]
 exact hQ
theorem next_none {Q : Option Sre.M → Shared → Prop} (hd : ∀ c ∈ l, dull c = true) {st : ReTarget} (hst : st = { pattern := .ref p, string := .str (tx l) t, code := twCode, text := l.toArray, kind := 0, groups := 1, pos := 0, lim := l.toArray.size }) (hQ : Q none s) : wpAny M A (reNextFound st 0 false) Q E s := by
 subst hst
 unfold reNextFound
 dsimp only
 refine el03 (search_none (text := l.toArray) (fun i hi => hd _ (by
  have : i < l.length := by simpa using hi
  simp [this]))) fun h1 h2 h3 => ?_
 exact run_none h1 h2 h3 hQ
end
theorem slot_sub : Slot "re.Pattern" "sub" "re.Pattern.sub" := .of (owner := "re.Pattern") (n := "sub") (by rw [typeLookup_type, builtinLookup_eq_fast]; kernel_rfl) (by decide +kernel) (by decide +kernel) (by decide +kernel)
  (by first | exact .inl (by decide +kernel) | exact .inr (by decide +kernel)) (by rw [isSubtype_type]; kernel_rfl)
theorem entry_sub' : entryFor table "re.Pattern.sub" = some Builtin.«re.Pattern.sub» := entryFor_of_tree (by kernel_rfl)
theorem entry_subloop : entryFor table "re.Pattern.sub.loop" = some Builtin.«re.Pattern.sub.loop» := entryFor_of_tree (by kernel_rfl)
theorem args_sub (a b c : Value) : argsOk "re.Pattern.sub" ⟨[a, b, c], []⟩ := by unfold argsOk; kernel_rfl
theorem type_sub : typeOf (.builtin "re.Pattern.sub") = pure (.type "method_descriptor") := by show builtinType _ = _; rw [builtinType_eq_fast]; kernel_rfl
theorem plain_pat : PlainAttrs "re.Pattern" := ⟨⟨"object.__getattribute__", by rw [typeLookup_type, builtinLookup_eq_fast]; kernel_rfl, by decide +kernel⟩, by rw [typeLookup_type, builtinLookup_eq_fast]; kernel_rfl⟩
theorem fn_has_call : typeLookup (.type "function") "__call__" = pure (some (.builtin "function.__call__")) := by rw [typeLookup_type, builtinLookup_eq_fast]; kernel_rfl
theorem sub_str_ba : isSubtype (.type "str") (.type "bytearray") = pure false := by rw [isSubtype_type]; kernel_rfl
theorem named_sub (v w : Value) : reNamed "re.Pattern.sub" "sub" ["repl", "string", "count"] 2 [v, w] [] = pure [some v, some w, none] := by kernel_rfl
section
variable {prog : Program} {w : World} {A : Around} {E : Value → Shared → Prop} {s : Shared} {p q pc fa : Addr} {l : List Nat} {t : Tok}
theorem slice_is {M : Model} {A : Around} {E : Value → Shared → Prop} {s : Shared} {l m : List Nat} {b e : Nat} {Q : Value → Shared → Prop} (hm : l.toArray.extract b e = m.toArray) (hl : m.length ≤ 1000000) (h : Q (.str (tx m) s.toks) { s with toks := s.toks + 1 }) : wpAny M A (reSlice l.toArray 0 b e) Q E s := by
 unfold reSlice
 rw [if_pos (show ((0 : Nat) == 0) = true from rfl), hm]
 refine wpAny_mkStr h ?_
 rw [tx_len]
 exact small hl
theorem loop_none {R : Result → Shared → Prop} (hq0 : IsTwin s.heap p q) (hpc : s.heap.get? pc = some { cls := .type "list", data := .seq #[] }) (hd : ∀ c ∈ l, dull c = true) (hne : l ≠ []) (hl : l.length ≤ 1000000) (hpn : pc ≠ p ∧ pc ≠ q)
  (h : ∀ t' h' tk, Heap.SameBut pc s.heap h' → R (.ok (.ret (.str (tx l) t'))) { s with heap := h', toks := tk }) :
  codeAny (model prog w) A (.builtin "re.Pattern.sub.loop" ⟨[.ref p, .str (tx l) t, .ref fa, rawInt 1, rawInt 0, rawInt 0, rawInt 0, rawInt 0, .bool false, .ref pc, .bool false], []⟩) R s := by
 refine codeAny_builtin entry_subloop ?_
 unfold Builtin.«re.Pattern.sub.loop»
 dsimp only [rawInt]
 refine wpAny_bind (target_is hq0 ?_)
 rw [if_neg (by decide)]
 refine wpAny_bind ?_
 rw [if_neg (by decide)]
 refine next_none hd rfl ?_
 dsimp only
 have h1 : (0 : Int).toNat < l.toArray.size := by
  rw [List.size_toArray]; exact List.length_pos_iff.mpr hne
 rw [if_pos h1]
 refine wpAny_bind (slice_is (m := l) (by simp) hl ?_)
 refine wpAny_bind (wpAny_updateSeq (s := { s with toks := s.toks + 1 }) hpc rfl ?_)
 refine wpAny_bind (slice_is (m := []) (by simp) (by simp) ?_)
 have hpu : (s.heap.update pc (Obj.mapSeq fun x => x.push (Value.str (tx l) s.toks))).get? pc = some { cls := .type "list", data := .seq #[.str (tx l) s.toks] 1 } := by
  rw [Heap.get?_update_self _ hpc (by rw [Obj.mapSeq_push_plain]; rfl), Obj.mapSeq_push_plain]; rfl
 refine wpAny_bind (wpAny_seqItems hpu rfl ?_)
 rw [if_neg (by simp)]
 refine wpAny_bind ?_
 rw [show (if ((0 : Nat) == 0) = true then "str.join" else "bytes.join") = "str.join" from rfl]
 refine SC.join (l := [(tx l, s.toks)]) (texts := [tx l]) ⟨_, hpu, rfl, 1, rfl⟩ rfl (join_ok [] [l] (small (by simpa using hl))) fun t' k => ?_
 rw [if_neg (by decide)]
 refine wpAny_pure ?_
 have e : Txt.join (tx []) [tx l] = tx l := by
  have := join_tx [] [l]
  simpa [joinL] using this
 rw [e]
 exact h _ _ _ (Heap.SameBut.update ..)
end
section
variable {G : Gd} {X : List Addr} {prog : Program} {w : World} {A : Around} {E : Value → Shared → Prop} {s : Shared} {p q fa : Addr} {fo : Obj} {l : List Nat} {t : Tok}
theorem sub_call {Q : Value → Shared → Prop} (hq0 : IsTwin s.heap p q) (hfa : s.heap.get? fa = some fo) (hfc : fo.cls = .type "function") (hd : ∀ c ∈ l, dull c = true) (hne : l ≠ []) (hl : l.length ≤ 1000000)
  (h : ∀ t' h' tk, (∀ b o, s.heap.get? b = some o → h'.get? b = some o) → Q (.str (tx l) t') { s with heap := h', toks := tk }) : wpAny (model prog w) A (call (.builtin "re.Pattern.sub") [.ref p, .ref fa, .str (tx l) t]) Q E s := by
 refine el32 hq0.pat fun fs dd sl ho _ => ?_
 have hp : s.TypeIs (.ref p) "re.Pattern" := ⟨_, ho, rfl⟩
 have hf : s.TypeIs (.ref fa) "function" := ⟨_, hfa, hfc⟩
 refine wpAny_call (codeAny_call_builtin slot_sub.plain entry_sub' (slot_sub.check _ _ _ _ _ _ _ _ hp (args_sub _ _ _) ?_))
 unfold Builtin.«re.Pattern.sub» reSubstitute
 dsimp only
 rw [named_sub]
 refine wpAny_bind (wpAny_pure ?_)
 dsimp only
 refine wpAny_bind (wpAny_pure ?_)
 refine wpAny_bind (wpAny_specialOf hf fn_has_call ?_)
 rw [if_pos (show (some (Value.builtin "function.__call__")).isSome = true from rfl)]
 refine wpAny_bind (wpAny_pure ?_)
 rw [if_pos (show (some (Value.builtin "function.__call__")).isSome = true from rfl)]
 refine wpAny_bind (wpAny_pure ?_)
 refine wpAny_bind (wpAny_holding (target_is hq0 ?_))
 rw [if_pos (show ((1 : Int) == 1) = true from rfl)]
 refine wpAny_bind ?_
 unfold reNotHeld
 refine wpAny_bind (wpAny_isInstance (b := false) (typeIs_str s _ _) sub_str_ba ?_)
 rw [if_neg (by decide)]
 refine wpAny_bind (wpAny_pure ?_)
 refine wpAny_pure ?_
 refine wpAny_bind (wpAny_newObj_type ?_ (show (0 : Nat) ≤ sizeLine from Nat.zero_le _))
 refine wpAny_pure ⟨Code.quiet_builtin _ (by decide +kernel), ?_⟩
 have k : ∀ b o, s.heap.get? b = some o → (s.heap.push { cls := .type "list", data := .seq #[] }).get? b = some o := fun b o e => Heap.get?_push_of_some _ e
 refine el32 hq0.code fun oq items n hoq _ => ?_
 refine loop_none (p := p) (q := q) (hq0.keeps k) (Heap.get?_push_size _ rfl) hd hne hl ⟨(Nat.ne_of_lt (Heap.lt_size ho)).symm, (Nat.ne_of_lt (Heap.lt_size hoq)).symm⟩ fun t' h' tk hs => ?_
 exact h t' h' tk fun b o e => (hs.2 b (Nat.ne_of_lt (Heap.lt_size e))).trans (k b o e)
end
end
section
open PySem.Builtin.Re
noncomputable def twinIn (K : Frag) (p q : Addr) : Bool := (match K.lookup p with
 | some ⟨.type n, none, .fields fs, _⟩ => n == "re.Pattern" && (match fs.getD 5 .none with | .ref q' => q' == q | _ => false) && reRawNat (fs.getD 6 .none) == 0 && reRawNat (fs.getD 2 .none) == 1
 | _ => false) && (match K.lookup q with
 | some ⟨_, _, .seq items _, _⟩ => (items.map reRawOf).map (·.toNat) == twCode
 | _ => false)
set_option tactic.hygienic true in
theorem twin_of {K : Frag} {h : Heap} {p q : Addr} (X : K.In h) (e : twinIn K p q = true) : IsTwin h p q ∧ h.NoDictAt (.ref p) := by
 unfold twinIn at e
 refine el02 (Bool.and_eq_true_iff.mp e) fun e1 e2 => ?_
 split at e1
 ·rename_i n fs sl h1
  simp only [Bool.and_eq_true] at e1
  refine el02 e1 fun y0 => ?_; refine el02 y0 fun y0 => ?_; refine el02 y0 fun a1 a2 => ?_; intro a3; intro a4
  have hn : n = "re.Pattern" := by simpa using a1
  subst hn
  split at a2
  ·rename_i q' h5
   have hq : q' = q := by simpa using a2
   subst hq
   split at e2
   ·rename_i items k _ h2
    exact ⟨⟨⟨fs, none, sl, X _ _ h1, h5, by simpa using a3, by simpa using a4⟩, ⟨_, items, k, X _ _ h2, rfl, by simpa using e2⟩⟩, ⟨_, X _ _ h1, rfl⟩⟩
   ·injection e2
  ·injection a2
 ·injection e1
theorem meth_eq {o : Expr} {name : Str} {apos pos : Pos} {args : List Expr} {env : Env} (hb : attributeBase o name env (eval o env) = eval o env) (hp : apos.endLine = pos.line) (hf : methodCallForm args.length (backTo pos (starEach args env)) [] = true) :
  eval (.Call (.Attribute o name apos) args [] pos) env = (do
    let ov ← eval o env
    standAt apos.atName
    let (f, first) ← holding [ov] (getMethod ov name (do return (← importBound o env).getD true))
    callWith pos f first (backTo pos (starEach args env)) []) := by
 show (do
  let ov ← attributeBase o name env (eval o env)
  standAt apos.atName
  let (f, first) ← holding [ov] (calleeOf (methodCallForm (args.length + 0) (backTo pos (starEach args env)) []) o env ov name)
  let callPos ← methodCallPos (methodCallForm (args.length + 0) (backTo pos (starEach args env)) []) o env apos pos
  callWith callPos f first (backTo pos (starEach args env)) []) = _
 rw [hb, Nat.add_zero, hf]
 have h1 : methodCallPos true o env apos pos = pure pos := by
  unfold methodCallPos
  rw [hp]; simp
 rw [h1]
 rfl
section
variable {G : Gd} {n : Nat} {env : Env} {ρ : Loc} {ow : Own} {bs : List (List Stmt)} {o : Out}
theorem ex_resub {x tw : Str} {f : Nat → Nat → Option Str} {p q c P : Addr} {l : List Nat} {args : Arguments} {body : Expr} {scope : Scope} {rest : List Stmt} {p1 p2 p3 p4 p5 p6 p7 : Pos} {pl : Sem Bool}
  (hk : storable env x = true) (hs : swapsWith (.Call (.Attribute (.Name tw p2) "sub" p3) [.Lambda args body scope p4, .Name x p5] [] p6) (some (.Name x p1)) p7.line env = pure false)
  (he : eval (.Call (.Attribute (.Name tw p2) "sub" p3) [.Lambda args body scope p4, .Name x p5] [] p6) env = (do
    let ov ← eval (.Name tw p2) env
    standAt p3.atName
    let (f, first) ← holding [ov] (getMethod ov "sub" pl)
    callWith p6 f first (backTo p6 (starEach [.Lambda args body scope p4, .Name x p5] env)) []))
  (htw : Ev G n env ρ ow (.Name tw p2) (.raw (.ref p))) (ht : twinIn G.K p q = true) (hx : Ev G n env ρ ow (.Name x p5) (.str l)) (hc : env.code = .ref c) (hC : codeHdIn G.K c P = true) (hm : (P, OO.pit f) ∈ ow) (hq : ∀ q, f p4.line p4.col = some q → q = env.qual ++ "<lambda>")
  (hcl : closOk env.cells scope.names = true) (hdef : defaultsOf args env = ([], [])) (hd : ∀ c ∈ l, dull c = true) (hne : l ≠ []) (hl : l.length ≤ 1000000)
  (h : Ex G n env ((x, .str l) :: ρ) ow (rest :: bs) o) : Ex G n env ρ ow ((.Assign [.Name x p1] (.Call (.Attribute (.Name tw p2) "sub" p3) [.Lambda args body scope p4, .Name x p5] [] p6) p7 :: rest) :: bs) o := .mk fun X A s E R B F => by
 refine wpAny_execs_cons (wpAny_Assign_Name (MethodCall_ (wpAny_mono (htw.go X A s E R F) (fun v s₁ q₁ => ?_) fun _ _ y => y) he) hs)
 obtain ⟨q₁, g₁⟩ := q₁
 refine Rep.eRaw q₁ ?_
 have F₁ := F.keeps g₁
 refine el02 (twin_of (G.X.keeps F₁.base) ht) fun tw₁ nd₁ => ?_
 refine el32 tw₁.pat fun fs dd sl ho _ => ?_
 refine getMethod_builtin (T := "re.Pattern") ⟨_, ho, rfl⟩ plain_pat slot_sub type_sub (fun a e => by (injection e with y0; subst y0); exact nd₁) ?_
 have e0 : backTo p6 (starEach [.Lambda args body scope p4, .Name x p5] env) = [(false, eval (.Lambda args body scope p4) env), (false, eval (.Name x p5) env)] := rfl
 refine callWith_method1 (e := .Lambda args body scope p4) (rest := [.Name x p5]) ?_ rfl rfl
 rw [e0]
 refine spliced_cons (lam_made F₁ hc hC hm hq (closureFor_is hcl) hdef fun v s₂ F₂ t₂ ⟨fa, fo, e1, e2, e3, e4, e5⟩ => ?_)
 subst e1
 refine spliced_cons (wpAny_mono (hx.go X A s₂ E R F₂) (fun v s₃ q₃ => spliced_nil ?_) fun _ _ y => y)
 obtain ⟨q₃, g₃⟩ := q₃
 refine Rep.eStr q₃ fun t => ?_
 have F₃ := F₂.keeps g₃
 refine el02 (twin_of (G.X.keeps F₃.base) ht) fun tw₃ nd₃ => ?_
 refine sub_call tw₃ (g₃.heap _ _ e2) e3 hd hne hl fun t' h' tk k => ?_
 have g₄ : Grow s₃ { s₃ with heap := h', toks := tk } := .of k
 exact store_any hk (F₃.keeps g₄) (.str l t') fun h'' tk' F' t'' _ => h.from' R B F' ((((g₁.turn.trans t₂).trans g₃.turn).trans g₄.turn).trans t'')
end
end
section
noncomputable abbrev plainObj : Obj := { cls := .type "object", data := .plain }
theorem slot_oi : Slot "object" "__init__" "object.__init__" := .of (T := "object") (name := "__init__") (owner := "object") (n := "__init__") (by rw [typeLookup_type, builtinLookup_eq_fast]; kernel_rfl) (by decide +kernel) (by decide +kernel) (by decide +kernel)
  (.inl (by decide +kernel)) (by rw [isSubtype_type]; kernel_rfl)
theorem mro_object : mroOf (.type "object") = pure [.type "object"] := by rw [mroOf_type]; kernel_rfl
theorem new_object : typeLookup (.type "object") "__new__" = pure (some (.builtin "object.__new__")) := by rw [typeLookup_type, builtinLookup_eq_fast]; kernel_rfl
theorem called_object : TypeCalled "object" "object.__new__" "object.__init__" :=
 ⟨by decide +kernel, by decide +kernel, ⟨_, _, mro_object⟩, madeBy_type mro_object new_object (by decide +kernel), by decide +kernel, by rw [isSubtype_type]; kernel_rfl, slot_oi⟩
theorem tc_object : checkTypeCall "object" ⟨[], []⟩ = pure () := by kernel_rfl
theorem nc_object : checkBuiltinCall "object.__new__" ⟨[.type "object"], []⟩ = pure () := by kernel_rfl
theorem en_object : entryFor table "object.__new__" = some Builtin.«object.__new__» := entryFor_of_tree (by kernel_rfl)
theorem new_tree : Builtin.«object.__new__» ⟨[.type "object"], []⟩ = (do ret (← newObj (.type "object") .plain none)) := by kernel_rfl
section
variable {prog : Program} {w : World} {A : Around} {E : Value → Shared → Prop} {s : Shared}
theorem call_object {Q : Value → Shared → Prop} (h : Q (.ref s.heap.objs.size) { s with heap := s.heap.push plainObj }) : wpAny (model prog w) A (call (.type "object") []) Q E s := by
 refine callType_meets (Q₁ := fun obj s₁ => s₁.TypeIs obj "object" ∧ Q obj s₁) (S := fun A R s => R (.ok (.ret (.ref s.heap.objs.size))) { s with heap := s.heap.push plainObj }) called_object tc_object nc_object en_object F.entry_object_init (.of_wp fun prog w A R s hs => ?_) ⟨⟨_, Heap.get?_push_size _ rfl, rfl⟩, h⟩ fun obj s₁ hq => ?_
 ·rw [new_tree]
  exact wpAny_bind (wpAny_newObj_type (wpAny_pure ⟨_, rfl, hs⟩))
 ·refine ⟨hq.1, oi_args obj, fun _ R s => R (.ok (.ret .none)) s, .of_wp fun prog w A R s hs => ?_, rfl, hq.2⟩
  exact wpAny_pure ⟨_, rfl, hs⟩
end
section
variable {G : Gd} {n : Nat} {env : Env} {ρ : Loc} {ow : Own} {bs : List (List Stmt)} {o : Out}
theorem ex_object {x : Str} {p1 p2 p3 p4 : Pos} {rest : List Stmt} {ob : Str} (hk : storable env x = true) (hs : swapsWith (.Call (.Name ob p2) [] [] p3) (some (.Name x p1)) p4.line env = pure false)
  (ho : Ev G n env ρ ow (.Name ob p2) (.raw (.type "object"))) (h : ∀ st, Ex G n env ((x, own st) :: ρ) ow (rest :: bs) o) : Ex G n env ρ ow ((.Assign [.Name x p1] (.Call (.Name ob p2) [] [] p3) p4 :: rest) :: bs) o := .mk fun X A s E R B F => by
 refine wpAny_execs_cons (wpAny_Assign_Name (Call_ (wpAny_mono (ho.go X A s E R F) (fun v s₁ q => ?_) fun _ _ x => x) rfl) hs)
 obtain ⟨q, g⟩ := q
 refine Rep.eRaw q ?_
 refine callWith_type0 (call_object ?_)
 have g₁ : Grow s₁ { s₁ with heap := s₁.heap.push plainObj } := .push _ _ s₁.toks
 exact store_any hk ((F.keeps g).keeps g₁) (.raw _) fun h' tk F' t' _ => (h _).from' R B F' ((g.trans g₁).turn.trans t')
end
end
section
noncomputable abbrev keysOf (ow : Own) : List Addr := ow.map (·.1)
structure KeepBut (as : List Addr) (s s' : Shared) : Prop where
 same : Kin s s'
 heap : ∀ b o, b ∉ as → s.heap.get? b = some o → s'.heap.get? b = some o
structure OwnAll (G : Gd) (X : List Addr) (h : Heap) (ow : Own) : Prop where
 all : ∀ p ∈ ow, OOIs X h p.1 p.2 ∧ p.1 ∈ X
 nd : (keysOf ow).Nodup
 apart : ∀ b ∈ keysOf ow, G.H₀.get? b = none
structure NewX (X X' : List Addr) (h : Heap) : Prop where
 sub : ∀ a ∈ X, a ∈ X'
 new : ∀ a ∈ X', a ∈ X ∨ h.get? a = none
theorem NewX.refl (X : List Addr) (h : Heap) : NewX X X h := ⟨fun _ q => q, fun _ q => .inl q⟩
theorem NewX.k {X X' : List Addr} {h : Heap} (x : NewX X X' h) : ∀ a ∈ X', a ∈ X ∨ ∀ o, h.get? a = some o → ¬ look o := fun a ha => (x.new a ha).imp id fun z o e => by rw [z] at e; injection e
structure Left (G : Gd) (X X' : List Addr) (c c' : Own) (s s' : Shared) : Prop where
 newX : NewX X X' s.heap
 live : Live X' s'.heap
 owns : OwnAll G X' s'.heap c'
 keep : KeepBut (keysOf c) s s'
 keys : ∀ b ∈ keysOf c', b ∈ keysOf c ∨ s.heap.get? b = none
theorem KeepBut.sameX {as X : List Addr} {s s' : Shared} (k : KeepBut as s s') (h : ∀ a ∈ as, a ∈ X) : Same X s.heap s'.heap := fun b o hb _ e => k.heap b o (fun q => hb (h b q)) e
section
variable {G : Gd} {env : Env} {X : List Addr} {ρ : Loc} {s : Shared}
theorem Fits.own {ow : Own} (F : Fits G env X ρ ow s) : OwnAll G X s.heap ow := ⟨F.owns, F.nd, fun b hb => by
 cases e : G.H₀.get? b with
 | none => rfl
 | some o => exact absurd (.inr (.inr hb)) (F.apart b o e)⟩
theorem OwnAll.left {c r : Own} {h : Heap} (x : OwnAll G X h (c ++ r)) : OwnAll G X h c :=
 ⟨fun p hp => x.all p (List.mem_append_left _ hp), by have := x.nd; rw [keysOf, List.map_append] at this; exact (List.nodup_append.mp this).1, fun b hb => x.apart b (by rw [keysOf, List.map_append]; exact List.mem_append_left _ hb)⟩
theorem Fits.leftover {c c' r : Own} {X' : List Addr} {s' : Shared} (F : Fits G env X ρ (c ++ r) s) (L : Left G X X' c c' s s') :
  Fits G env X' ρ (c' ++ r) s' ∧ Turn env (c ++ r) s s' ∧ (∀ b, Mut env (c' ++ r) b → Mut env (c ++ r) b ∨ s.heap.get? b = none) := by
 have cX : ∀ a ∈ keysOf c, a ∈ X' := fun a ha => by
  refine el12 (List.mem_map.mp ha) fun p hp y0 => ?_; subst y0
  exact L.newX.sub _ (F.owns p (List.mem_append_left _ hp)).2
 have hsame : Same X' s.heap s'.heap := L.keep.sameX cX
 have inown : ∀ b, b ∈ keysOf c → b ∈ (c ++ r).map (·.1) := fun b hb => by rw [List.map_append]; exact List.mem_append_left _ hb
 have nl : env.locals ∉ keysOf c := fun q => by refine el12 (List.mem_map.mp q) fun p hp e => ?_; exact (F.sep p (List.mem_append_left _ hp)).1 e
 have nc : ∀ n x, env.cells.lookup n = some x → x ∉ keysOf c := fun n x hx q => by refine el12 (List.mem_map.mp q) fun p hp e => ?_; exact (F.sep p (List.mem_append_left _ hp)).2 n x hx e
 have hnd := F.nd
 rw [List.map_append, List.nodup_append] at hnd
 have kr : ∀ p ∈ r, p.1 ∉ keysOf c := fun p hp q => hnd.2.2 _ q _ (List.mem_map.mpr ⟨p, hp, rfl⟩) rfl
 have hmut : ∀ b, Mut env (c' ++ r) b → Mut env (c ++ r) b ∨ s.heap.get? b = none := fun b q => by
  rcases q with q | q | q
  ·exact .inl (.inl q)
  ·exact .inl (.inr (.inl q))
  ·rw [List.map_append] at q
   refine Or.elim (List.mem_append.mp q) (fun q => ?_) (fun q => ?_)
   ·exact (L.keys b q).imp (fun z => .inr (.inr (inown b z))) id
   ·exact .inl (.inr (.inr (by rw [List.map_append]; exact List.mem_append_right _ q)))
 refine ⟨?_, ⟨L.keep.same, fun b o p e => L.keep.heap b o (fun q => p (.inr (.inr (inown b q)))) e⟩, hmut⟩
 refine ⟨fun b o e => L.keep.heap b o (fun q => F.apart b o e (.inr (.inr (inown b q)))) (F.base b o e), F.fn, F.gl, F.bl, ?_, fun n d e => ?_, fun p hp => ?_, ?_, L.live, fun b o e q => ?_, F.inj, fun y x e => ?_, fun p hp => ?_⟩
 ·refine el11 F.ns fun m hm => ?_; exact ⟨m, hm.at' fun o e => L.keep.heap _ o nl e⟩
 ·cases F.vars n d e with
  | loc m v a b z r => exact .loc m v a (b.at' fun o e => L.keep.heap _ o nl e) z ((r.to L.newX.k).mono hsame)
  | cell x v a b e' r => exact .cell x v a b (let ⟨o, ho, hd⟩ := e'; ⟨o, L.keep.heap x o (nc n x b) ho, hd⟩) ((r.to L.newX.k).mono hsame)
 ·refine Or.elim (List.mem_append.mp hp) (fun q => ?_) (fun q => ?_)
  ·exact L.owns.all p q
  ·have h1 := F.owns p (List.mem_append_right _ q)
   exact ⟨(h1.1.to L.newX.k).at (fun o e => L.keep.heap _ o (kr p q) e) hsame, L.newX.sub _ h1.2⟩
 ·rw [List.map_append, List.nodup_append]
  refine ⟨L.owns.nd, hnd.2.1, fun a ha b hb q => ?_⟩
  subst q
  refine Or.elim (L.keys a ha) (fun z => ?_) (fun z => ?_)
  ·exact hnd.2.2 a z a hb rfl
  ·refine el12 (List.mem_map.mp hb) fun p hp y0 => ?_; subst y0
   refine el11 (own_there (F.owns p (List.mem_append_right _ hp)).1) fun o e => ?_
   rw [z] at e; injection e
 ·refine Or.elim (hmut b q) (fun z => ?_) (fun z => ?_)
  ·exact F.apart b o e z
  ·rw [F.base b o e] at z; injection z
 ·refine el22 (F.cel y x e) fun v o ho hd => ?_; exact ⟨v, o, L.keep.heap x o (nc y x e) ho, hd⟩
 ·refine Or.elim (List.mem_append.mp hp) (fun q => ?_) (fun q => ?_)
  ·refine Or.elim (L.keys p.1 (List.mem_map.mpr ⟨p, q, rfl⟩)) (fun z => ?_) (fun z => ?_)
   ·refine el12 (List.mem_map.mp z) fun p' hp' e' => ?_
    have := F.sep p' (List.mem_append_left _ hp')
    rw [e'] at this; exact this
   ·refine ⟨fun w => ?_, fun n x hx w => ?_⟩
    ·refine el42 F.ns fun m o _ _ e _ => ?_; rw [← w, z] at e; injection e
    ·refine el22 (F.cel n x hx) fun v o e _ => ?_; rw [← w, z] at e; injection e
  ·exact F.sep p (List.mem_append_right _ q)
end
noncomputable def MutOk (env : Env) (ow ow' : Own) (h : Heap) : Prop := ∀ b, Mut env ow' b → Mut env ow b ∨ h.get? b = none
inductive FQ (G : Gd) (X : List Addr) (c : Own) (R : D → Own → Prop) (s : Shared) (v : Value) (s' : Shared) : Prop
 | mk (d : D) (c' : Own) (X' : List Addr) : R d c' → Rep X' s'.heap v d → Left G X X' c c' s s' → FQ G X c R s v s'
inductive GQ (G : Gd) (env : Env) (X : List Addr) (ρ : Loc) (ow : Own) (R : D → Own → Prop) (s : Shared) (v : Value) (s' : Shared) : Prop
 | mk (d : D) (ow' : Own) (X' : List Addr) : R d ow' → NewX X X' s.heap → Rep X' s'.heap v d → Fits G env X' ρ ow' s' → Turn env ow s s' → MutOk env ow ow' s.heap → GQ G env X ρ ow R s v s'
structure FnG (G : Gd) (n : Nat) (f : Value) (ds : List D) (c : Own) (R : D → Own → Prop) : Prop where
 code : ∀ (X : List Addr) (A : Around) (s : Shared) (E : Value → Shared → Prop) (vs : List Value), Room n A → G.H₀.StaysIn s.heap → Live X s.heap → RepAll X s.heap vs ds → OwnAll G X s.heap c →
  codeAny (model G.prog G.w) A (.call f ⟨vs, []⟩) (fun r s' => match r with | .ok (.ret v) => FQ G X c R s v s' | .ok _ => False | .error e => E e s') s
theorem FnG.go {G : Gd} {n : Nat} {f : Value} {ds : List D} {c : Own} {R : D → Own → Prop} (h : FnG G n f ds c R) (X : List Addr) (A : Around) (s : Shared) (E : Value → Shared → Prop) (vs : List Value) (Rm : Room n A) (hb : G.H₀.StaysIn s.heap) (hX : Live X s.heap) (ra : RepAll X s.heap vs ds) (ho : OwnAll G X s.heap c) :
  wpAny (model G.prog G.w) A (call f vs) (FQ G X c R s) E s := wpAny_call (h.code X A s E vs Rm hb hX ra ho)
structure EvG (G : Gd) (n : Nat) (env : Env) (ρ : Loc) (ow : Own) (e : Expr) (R : D → Own → Prop) : Prop where
 go : ∀ (X : List Addr) (A : Around) (s : Shared) (E : Value → Shared → Prop), Room n A → Fits G env X ρ ow s → wpAny (model G.prog G.w) A (eval e env)
  (GQ G env X ρ ow R s) E s
theorem FnG.le {G : Gd} {n m : Nat} {f : Value} {ds : List D} {c : Own} {R : D → Own → Prop} (x : FnG G n f ds c R) (h : n ≤ m) : FnG G m f ds c R := ⟨fun X A s E vs Rm => x.code X A s E vs (Rm.le h)⟩
theorem NewX.trans {X X' X'' : List Addr} {h h' : Heap} (x : NewX X X' h) (y : NewX X' X'' h') (k : ∀ b, h'.get? b = none → h.get? b = none) : NewX X X'' h := ⟨fun a q => y.sub a (x.sub a q), fun a q => (y.new a q).elim (x.new a) fun z => .inr (k a z)⟩
theorem NewX.base {X X' : List Addr} {h : Heap} {b : List Addr} (x : NewX X X' h) (B : ∀ a ∈ b, a ∈ X) : ∀ a ∈ b, a ∈ X' := fun a q => x.sub a (B a q)
section
variable {G : Gd} {n : Nat} {env : Env} {ρ : Loc} {ow : Own} {bs : List (List Stmt)} {o : Out}
theorem Turn.there {X : List Addr} {ρ' : Loc} {ow' : Own} {s s' : Shared} (t : Turn env ow s s') (F' : Fits G env X ρ' ow' s') (hm : ∀ b, Mut env ow b → Mut env ow' b) : ∀ b, s'.heap.get? b = none → s.heap.get? b = none := fun b z => by
 cases e : s.heap.get? b with
 | none => rfl
 | some ob =>
  by_cases q : Mut env ow b
  ·refine el11 (F'.mut_there (hm b q)) fun o' e' => ?_; rw [z] at e'; injection e'
  ·rw [t.heap b ob q e] at z; injection z
theorem evG_of {e : Expr} {d : D} (h : Ev G n env ρ ow e d) : EvG G n env ρ ow e fun d' ow' => d' = d ∧ ow' = ow := .mk fun X A s E R F =>
 wpAny_mono (h.go X A s E R F) (fun v s' q => ⟨d, ow, X, ⟨rfl, rfl⟩, .refl .., q.1, F.keeps q.2, q.2.turn, fun b z => .inl z⟩) fun _ _ y => y
theorem EvG.weaken {e : Expr} {R R' : D → Own → Prop} (x : EvG G n env ρ ow e R) (h : ∀ d c', R d c' → R' d c') : EvG G n env ρ ow e R' := ⟨fun X A s E Rm F => wpAny_mono (x.go X A s E Rm F) (fun v s' ⟨d, c', X', r, a, b, z, t, m⟩ => ⟨d, c', X', h _ _ r, a, b, z, t, m⟩) fun _ _ y => y⟩
theorem ex_own {ow' : Own} (hw : OSub ow' ow) (hnd : (keysOf ow).Nodup → (keysOf ow').Nodup) (h : Ex G n env ρ ow' bs o) : Ex G n env ρ ow bs o := .mk fun X A s E R B F =>
 h.from R B (F.less (Sub.refl ρ) hw (hnd F.nd)) (Grow.refl s).turn fun b q => .inl (mut_sub hw q)
theorem not_base {X X' base : List Addr} {ρ' : Loc} {ow' : Own} {s s₁ : Shared} (F : Fits G env X ρ ow s) (B : ∀ a ∈ base, a ∈ X) (F₁ : Fits G env X' ρ' ow' s₁) (hm : ∀ b, Mut env ow' b → Mut env ow b ∨ s.heap.get? b = none) : ∀ b ∈ keysOf ow', b ∈ keysOf ow ∨ b ∉ base := fun b hb => by
 refine el12 (List.mem_map.mp hb) fun p hp y0 => ?_; subst y0
 rcases hm p.1 (.inr (.inr hb)) with (z | ⟨n', z⟩ | z) | z
 ·exact absurd z (F₁.sep p hp).1
 ·exact absurd rfl ((F₁.sep p hp).2 n' _ z)
 ·exact .inl z
 ·exact .inr fun q => by refine el11 (F.live _ (B _ q)) fun ob e => ?_; rw [z] at e; injection e
theorem ex_assignG {x : Str} {px pos : Pos} {e : Expr} {rest : List Stmt} {R : D → Own → Prop} (hk : storable env x = true) (hs : swapsWith e (some (.Name x px)) pos.line env = pure false) (he : EvG G n env ρ ow e R)
  (h : ∀ d ow', R d ow' → (∀ b ∈ keysOf ow', b ∈ keysOf ow ∨ b ∉ o.base) → Ex G n env ((x, d) :: ρ) ow' (rest :: bs) o) : Ex G n env ρ ow ((.Assign [.Name x px] e pos :: rest) :: bs) o := .mk fun X A s E Rm B F => by
 refine wpAny_execs_cons (wpAny_Assign_Name (wpAny_mono (he.go X A s E Rm F) (fun v s₁ q => ?_) fun _ _ y => y) hs)
 obtain ⟨d, ow', X', r, nx, rep, F₁, t₁, hm⟩ := q
 refine store_any hk F₁ rep fun h' tk F' t' _ => ?_
 exact (h d ow' r (not_base F B F₁ hm)).from Rm (nx.base B) F' (t₁.after t' hm) hm
theorem ex_exprG {e : Expr} {pos : Pos} {rest : List Stmt} {R : D → Own → Prop} (hi : interactive env = false) (hsw : swapsWith e none pos.line env = pure false) (he : EvG G n env ρ ow e R)
  (h : ∀ d ow', R d ow' → (∀ b ∈ keysOf ow', b ∈ keysOf ow ∨ b ∉ o.base) → Ex G n env ρ ow' (rest :: bs) o) : Ex G n env ρ ow ((.Expr e pos :: rest) :: bs) o := .mk fun X A s E Rm B F => by
 refine wpAny_execs_cons (wpAny_Expr_any (wpAny_mono (he.go X A s E Rm F) (fun v s₁ q => ?_) fun _ _ y => y) hi hsw)
 obtain ⟨d, ow', X', r, nx, rep, F₁, t₁, hm⟩ := q
 exact (h d ow' r (not_base F B F₁ hm)).from Rm (nx.base B) F₁ t₁ hm
theorem ex_retG {e : Expr} {pos : Pos} {rest : List Stmt} {R : D → Own → Prop} (he : EvG G n env ρ ow e R) (h : ∀ d ow', R d ow' → o.ret d ρ ow') : Ex G n env ρ ow ((.Return (some e) pos :: rest) :: bs) o := .mk fun X A s E Rm B F =>
 wpAny_execs_cons (wpAny_Return_some (wpAny_mono (he.go X A s E Rm F) (fun v s₁ ⟨d, ow', X', r, nx, rep, F₁, t₁, hm⟩ => seqP_other (by simp) ⟨t₁, d, X', ρ, ow', nx.base B, rep, h d ow' r, F₁⟩) fun _ _ y => y))
theorem evG_call {fe : Expr} {f : Addr} {e : Expr} {es : List Expr} {pos : Pos} {ds : List D} {c r : Own} {R : D → Own → Prop} (hf : Ev G n env ρ (c ++ r) fe (.raw (.ref f))) (hk : keepIn G.K (.ref f) = true) (ha : EvAll G n env ρ (c ++ r) (e :: es) ds) (hs : noStar (e :: es) = true)
  (h : FnG G n (.ref f) ds c R) (hattr : notAttr fe = true) : EvG G n env ρ (c ++ r) (.Call fe (e :: es) [] pos) fun d ow' => ∃ c', R d c' ∧ ow' = c' ++ r := .mk fun X A s E Rm F => by
 refine Call_ (wpAny_mono (hf.go X A s E Rm F) (fun v s₁ q => ?_) fun _ _ x => x) (call_eq hattr)
 obtain ⟨q, g⟩ := q
 refine Rep.eRaw q ?_
 have F₁ := F.keeps g
 refine callWith_K (G.X.keeps F₁.base) hk (wpAny_mono (ha.go pos X A s₁ E Rm F₁) (fun vs s₂ q₂ => ⟨G.X.keeps (F₁.keeps q₂.2).base, ?_⟩) fun _ _ x => x) (starEach_cons hs) (backTo_any (noStar_tail hs))
 have F₂ := F₁.keeps q₂.2
 refine wpAny_mono (h.go X A s₂ E vs Rm F₂.base F₂.live q₂.1 F₂.own.left) (fun v s₃ q₃ => ?_) fun _ _ x => x
 obtain ⟨d, c', X', r', rep, L⟩ := q₃
 refine el03 (F₂.leftover L) fun F₃ t₃ hm => ?_
 have g₂ := g.trans q₂.2
 have old : ∀ b, s₂.heap.get? b = none → s.heap.get? b = none := fun b z => by
  cases e : s.heap.get? b with
  | none => rfl
  | some ob => rw [g₂.heap b ob e] at z; injection z
 exact ⟨d, c' ++ r, X', ⟨c', r', rfl⟩, ⟨L.newX.sub, fun a q => (L.newX.new a q).imp id (old a)⟩, rep, F₃, g₂.turn.trans t₃, fun b q => (hm b q).imp id (old b)⟩
end
end
section
noncomputable def Out.fnG (X : List Addr) (R : D → Loc → Own → Prop) : Out := ⟨X, R .none, fun _ _ => False, fun _ _ => False, R⟩
noncomputable abbrev cellsOwn (env : Env) (cs : List (Str × D)) : Own := cs.map fun p => ((env.cells.lookup p.1).getD 0, OO.cell p.2)
theorem end_core {G G' : Gd} {env : Env} {X X' : List Addr} {ρ' : Loc} {c ow' : Own} {s s' : Shared} {cs : List (Str × D)} (hG' : G'.H₀ = hideAll s.heap (keysOf c)) (hb : G.H₀.StaysIn G'.H₀) (hbase : ∀ a ∈ X, a ∈ X') (cX : ∀ a ∈ keysOf c, a ∈ X)
  (F' : Fits G' env X' ρ' ow' s') (hk : KeepBut (keysOf c) s s') (hcs : ∀ p ∈ cs, ρ'.lookup p.1 = some p.2 ∧ env.kindOf p.1 ≠ some .local ∧ ∃ a, env.cells.lookup p.1 = some a ∧ (a ∈ keysOf c ∨ s.heap.get? a = none)) (hnd : (cs.map (·.1)).Nodup) :
  ∃ X'', Left G X X'' c (cellsOwn env cs ++ ow') s s' ∧ ∀ v d, Rep X' s'.heap v d → Rep X'' s'.heap v d := by
 have ownN : ∀ b ∈ keysOf ow', b ∈ keysOf c ∨ s.heap.get? b = none := fun b q => by
  have h1 := F'.own.apart b q
  rw [hG'] at h1
  by_cases z : b ∈ keysOf c
  ·exact .inl z
  ·cases e : s.heap.get? b with
   | none => exact .inr rfl
   | some o => rw [hideAll_get _ e z] at h1; injection h1
 have cellN : ∀ b ∈ keysOf (cellsOwn env cs), (b ∈ keysOf c ∨ s.heap.get? b = none) ∧ ∃ p ∈ cs, env.cells.lookup p.1 = some b := fun b q => by
  refine el12 (List.mem_map.mp q) fun p' hp' y0 => ?_; subst y0
  refine el12 (List.mem_map.mp hp') fun p hp y0 => ?_; subst y0
  obtain ⟨_, _, a, ha, z⟩ := hcs p hp
  show ((env.cells.lookup p.1).getD 0 ∈ _ ∨ s.heap.get? ((env.cells.lookup p.1).getD 0) = none) ∧ ∃ p' ∈ cs, env.cells.lookup p'.1 = some ((env.cells.lookup p.1).getD 0)
  rw [ha]; exact ⟨z, p, hp, ha⟩
 have hkeys : ∀ b ∈ keysOf (cellsOwn env cs ++ ow'), b ∈ keysOf c ∨ s.heap.get? b = none := fun b q => by
  rw [keysOf, List.map_append] at q
  refine Or.elim (List.mem_append.mp q) (fun q => ?_) (fun q => ?_)
  ·exact (cellN b q).1
  ·exact ownN b q
 have cellO : ∀ b ∈ keysOf (cellsOwn env cs), ∃ o, s'.heap.get? b = some o ∧ ¬ look o := fun b q => by
  obtain ⟨_, p, hp, hl⟩ := cellN b q
  refine el11 (F'.cel _ b hl) fun v hv => ?_
  refine el12 (id hv) fun o e hd => ?_
  exact ⟨o, e, cell_look hv o e⟩
 have ownX : ∀ b ∈ keysOf ow', b ∈ X' := fun b q => by refine el12 (List.mem_map.mp q) fun p hp y0 => ?_; subst y0; exact (F'.owns p hp).2
 have kto : ∀ a ∈ keysOf (cellsOwn env cs ++ ow') ++ X, a ∈ X' ∨ ∀ o, s'.heap.get? a = some o → ¬ look o := fun a q => by
  refine Or.elim (List.mem_append.mp q) (fun q => ?_) (fun q => ?_)
  ·rw [keysOf, List.map_append] at q
   refine Or.elim (List.mem_append.mp q) (fun q => ?_) (fun q => ?_)
   ·refine el12 (cellO a q) fun o e l => ?_
    exact .inr fun o' e' => by rw [e] at e'; (injection e' with y0; subst y0); exact l
   ·exact .inl (ownX a q)
  ·exact .inl (hbase a q)
 refine ⟨keysOf (cellsOwn env cs ++ ow') ++ X, ⟨⟨fun a q => List.mem_append_right _ q, fun a q => ?_⟩, fun a q => ?_, ⟨fun p hp => ⟨?_, List.mem_append_left _ (List.mem_map.mpr ⟨p, hp, rfl⟩)⟩, ?_, fun b q => ?_⟩, hk, hkeys⟩, fun v d r => r.to kto⟩
 ·refine Or.elim (List.mem_append.mp q) (fun q => ?_) (fun q => ?_)
  ·exact (hkeys a q).imp (cX a) id
  ·exact .inl q
 ·refine Or.elim (List.mem_append.mp q) (fun q => ?_) (fun q => ?_)
  ·rw [keysOf, List.map_append] at q
   refine Or.elim (List.mem_append.mp q) (fun q => ?_) (fun q => ?_)
   ·refine el12 (cellO a q) fun o e _ => ?_; exact ⟨o, e⟩
   ·exact F'.live a (ownX a q)
  ·exact F'.live a (hbase a q)
 ·refine Or.elim (List.mem_append.mp hp) (fun q => ?_) (fun q => ?_)
  ·refine el12 (List.mem_map.mp q) fun z hz y0 => ?_; subst y0
   obtain ⟨h1, h2, a, ha, _⟩ := hcs z hz
   show OOIs _ _ ((env.cells.lookup z.1).getD 0) (.cell z.2)
   rw [ha]
   cases F'.vars _ _ h1 with
   | loc m v hk' _ _ _ => exact absurd hk' h2
   | cell c' v hk' hc' hv hr =>
    rw [ha] at hc'; (injection hc' with y0; subst y0)
    exact ⟨v, hv, hr.to kto⟩
  ·exact (F'.owns p q).1.to kto
 ·rw [keysOf, List.map_append, List.nodup_append]
  refine ⟨?_, F'.nd, fun a ha b hb q => ?_⟩
  ·have : ∀ l : List (Str × D), (∀ p ∈ l, ∃ a, env.cells.lookup p.1 = some a) → (l.map (·.1)).Nodup → ((cellsOwn env l).map (·.1)).Nodup := by
    intro l
    induction l with
    | nil => intro _ _; exact .nil
    | cons p r ih =>
     intro h1 h2
     simp only [List.map_cons, List.nodup_cons] at h2 ⊢
     refine ⟨fun q => ?_, ih (fun p' hp' => h1 p' (List.mem_cons_of_mem _ hp')) h2.2⟩
     refine el12 (List.mem_map.mp q) fun p' hp' e => ?_
     refine el12 (List.mem_map.mp hp') fun p'' hp'' y0 => ?_; subst y0
     refine el11 (h1 p (List.mem_cons_self ..)) fun a ha => ?_
     refine el11 (h1 p'' (List.mem_cons_of_mem _ hp'')) fun a' ha' => ?_
     simp only [ha, ha', Option.getD_some] at e
     subst e
     exact h2.1 (List.mem_map.mpr ⟨p'', hp'', F'.inj _ _ _ ha' ha⟩)
   exact this cs (fun p hp => let ⟨_, _, a, ha, _⟩ := hcs p hp; ⟨a, ha⟩) hnd
  ·subst q
   obtain ⟨_, p, hp, hl⟩ := cellN a ha
   refine el12 (List.mem_map.mp hb) fun p' hp' y0 => ?_; subst y0
   exact (F'.sep p' hp').2 _ _ hl rfl
 ·have hn : G'.H₀.get? b = none → G.H₀.get? b = none := fun z => by
   cases e : G.H₀.get? b with
   | none => rfl
   | some o => rw [hb b o e] at z; injection z
  rw [keysOf, List.map_append] at q
  refine Or.elim (List.mem_append.mp q) (fun q => ?_) (fun q => ?_)
  ·refine hn ?_
   obtain ⟨_, p, hp, hl⟩ := cellN b q
   cases e : G'.H₀.get? b with
   | none => rfl
   | some o => exact absurd (.inr (.inl ⟨_, hl⟩)) (F'.apart b o e)
  ·exact hn (F'.own.apart b q)
noncomputable def Gd.at (G : Gd) (s : Shared) (c : Own) (hb : G.H₀.StaysIn s.heap) (hc : ∀ b ∈ keysOf c, G.H₀.get? b = none) : Gd :=
 { G with
  H₀ := hideAll s.heap (keysOf c)
  X := G.X.keeps fun b o e => hideAll_get _ (hb b o e) fun q => (by rw [hc b q] at e; injection e)
  T := G.T.keeps fun b o e => hideAll_get _ (hb b o e) fun q => (by rw [hc b q] at e; injection e) }
theorem fnG_of {G : Gd} {n : Nat} {f : Addr} {oc : Value} {od : Option Addr} {osl : Array (Option Value)} {fd : FuncData} {body : List Stmt} {ns : List Str} {ds : List D} {c : Own} {R : D → Own → Prop} {R' : Nat → D → Loc → Own → Prop}
  (ho : G.K.lookup f = some ⟨oc, od, .func fd, osl⟩) (hcd : codeIn G.K fd.code fd.qualname = true) (hbody : fd.body = .stmts body)
  (hbind : ∀ vs : List Value, vs.length = ds.length → bindArgs fd ⟨vs, []⟩ = pure (ns.zip vs)) (hclo : fd.closure = []) (hnd : ns.Nodup) (hlen : ns.length = ds.length)
  (hkind : (ns.all fun x => fd.scope.names.lookup x == some .local || fd.scope.names.lookup x == some .cell) = true)
  (hgl : fd.globals = mainGlobals) (hbl : fd.builtins = builtinsNs)
  (hco : fd.scope.isCoroutine = false) (hgen : fd.scope.isGenerator = false) (hk : fd.scope.kind = .function)
  (h : ∀ G' : Gd, G'.K = G.K → (∀ b ∈ keysOf c, G'.H₀.get? b = none) → ∀ X L, Ex G' n (callEnvC fd L f) (ns.zip ds) c [body] (Out.fnG X (R' L)))
  (hR : ∀ L d ρ' ow', R' L d ρ' ow' → ∃ cs : List (Str × D), (∀ p ∈ cs, ρ'.lookup p.1 = some p.2 ∧ fd.scope.names.lookup p.1 = some .cell) ∧ (cs.map (·.1)).Nodup ∧ R d (cellsOwn (callEnvC fd L f) cs ++ ow')) : FnG G (n + 1) (.ref f) ds c R := .mk <| fun X A s E vs Rm hb hX ra ow => by
 have K₁ : G.K.In s.heap := G.X.keeps hb
 have hvl : vs.length = ds.length := ra.length
 have hkd : ∀ x ∈ ns.zip vs, fd.scope.names.lookup x.1 = some .local ∨ (fd.scope.names.lookup x.1 = some .cell ∧ ((cellsFrom (s.heap.objs.size + 1) fd.scope.names []).lookup x.1).isSome = true) := fun x hx => by
  have hx1 : x.1 ∈ ns := (List.of_mem_zip (a := x.1) (b := x.2) hx).1
  have := List.all_eq_true.mp hkind x.1 hx1
  refine Or.elim (Bool.or_eq_true_iff.mp this) (fun q => ?_) (fun q => ?_)
  ·exact .inl (by simpa using q)
  ·have q' : fd.scope.names.lookup x.1 = some .cell := by simpa using q
   exact .inr ⟨q', cellsFrom_some _ _ _ (.inl q')⟩
 refine codeAny_call_cells Rm.depth (K₁ _ _ ho) rfl (G.T.nolimit.keeps hb) (codeRec_of K₁ hcd) hbody (hbind vs hvl) hclo hkd (fun s₁ C => ?_) hco hgen hk
 have hg : Grow s s₁ := by refine el22 C.done fun h' tk y0 => ?_; subst y0; intro k; exact .of k
 have above : ∀ y a, (callEnvC fd s.heap.objs.size f).cells.lookup y = some a → s.heap.get? a = none := fun y a q => none_at (Nat.le_of_lt (C.above y a (mem_of_lookup q)))
 have lnone : s.heap.get? (callEnvC fd s.heap.objs.size f).locals = none := none_at (Nat.le_refl _)
 have ownS : ∀ p ∈ c, ∃ o, s.heap.get? p.1 = some o := fun p hp => own_there (ow.all p hp).1
 have cX : ∀ a ∈ keysOf c, a ∈ X := fun a q => by refine el12 (List.mem_map.mp q) fun p hp y0 => ?_; subst y0; exact (ow.all p hp).2
 have F : Fits (G.at s c hb ow.apart) (callEnvC fd s.heap.objs.size f) X (ns.zip ds) c s₁ := by
  refine ⟨fun b o e => hg.heap b o (of_hideAll _ e), hk, hgl, hbl, ⟨_, C.toInCall.ns⟩, fun x d' e => ?_, fun p hp => ⟨(ow.all p hp).1.keeps hg.heap, (ow.all p hp).2⟩, ow.nd, hX.keeps hg.heap, fun b o e q => ?_, cells_mem_lookup C.apart, fun y a e => ⟨_, C.cell y a e⟩, fun p hp => ?_⟩
  ·refine el12 (zip_lookup ra e) fun v hv hr => ?_
   have hnd' : ((ns.zip vs).map (·.1)).Nodup := by rw [List.map_fst_zip (by omega)]; exact hnd
   rcases hkd (x, v) (mem_of_lookup hv) with q | ⟨q, q2⟩
   ·exact .loc _ v q C.toInCall.ns (bindL_get hnd' q (.inl hv)) (hr.keeps hg.heap)
   ·refine el11 (Option.isSome_iff_exists.mp q2) fun a hc => ?_
    have := C.cell x a hc
    rw [bindC_get hnd' (by show fd.scope.names.lookup x ≠ _; rw [q]; decide) (.inl hv)] at this
    exact .cell a v (.inl q) hc this (hr.keeps hg.heap)
  ·have e' := of_hideAll _ e
   rcases q with q | ⟨y, q⟩ | q
   ·rw [q, lnone] at e'; injection e'
   ·rw [above y b q] at e'; injection e'
   ·have : (hideAll s.heap (keysOf c)).get? b = none := hideAll_none _ q
    rw [show (hideAll s.heap (keysOf c)).get? b = some o from e] at this; injection this
  ·refine el11 (ownS p hp) fun o e => ?_
   exact ⟨fun q => (by rw [q, lnone] at e; injection e), fun n a hc q => (by rw [q, above n a hc] at e; injection e)⟩
 refine wpAny_mono ((h (G.at s c hb ow.apart) rfl (fun b q => hideAll_none _ q) X s.heap.objs.size).go X _ s₁ _ Rm.deeper (fun _ q => q) F) (fun fl s' q => ?_) fun _ _ y => y
 obtain ⟨t, q⟩ := q
 have hkeep : KeepBut (keysOf c) s s' := by
  refine ⟨hg.same.trans t.same, fun b o p e => t.heap b o (fun z => ?_) (hg.heap b o e)⟩
  rcases z with z | ⟨y, z⟩ | z
  ·rw [z, lnone] at e; injection e
  ·rw [above y b z] at e; injection e
  ·exact p z
 have fin : ∀ (v : Value) (d : D) (X' : List Addr) (ρ' : Loc) (ow' : Own), (∀ a ∈ X, a ∈ X') → Rep X' s'.heap v d → R' s.heap.objs.size d ρ' ow' → Fits (G.at s c hb ow.apart) (callEnvC fd s.heap.objs.size f) X' ρ' ow' s' → FQ G X c R s v s' := fun v d X' ρ' ow' hB r hr F' => by
  refine el13 (hR s.heap.objs.size d ρ' ow' hr) fun cs hcs hn hRR => ?_
  refine el12 (end_core (cs := cs) rfl (fun b o e => hideAll_get _ (hb b o e) fun z => by rw [ow.apart b z] at e; cases e) hB cX F' hkeep (fun p hp => by
   obtain ⟨h1, h2⟩ := hcs p hp
   have h3 : ((cellsFrom (s.heap.objs.size + 1) fd.scope.names []).lookup p.1).isSome = true := cellsFrom_some _ _ _ (.inl h2)
   obtain ⟨a, ha⟩ := Option.isSome_iff_exists.mp h3
   exact ⟨h1, by show fd.scope.names.lookup p.1 ≠ _; rw [h2]; decide, a, ha, .inr (above p.1 a ha)⟩) hn) fun X'' L hto => ?_
  exact ⟨d, _, X'', hRR, hto v d r, L⟩
 cases fl with
 | ret v => obtain ⟨d, X', ρ', ow', hB, r, hr, F'⟩ := q; exact fin v d X' ρ' ow' hB r hr F'
 | next => obtain ⟨X', ρ', ow', hB, hr, F'⟩ := q; exact fin .none .none X' ρ' ow' hB .none hr F'
 | _ => obtain ⟨_, _, _, _, e, _⟩ := q; exact e.elim
end
section
theorem lookup_rev {α : Type} : ∀ {l : List (Str × α)} {x : Str} {v : α}, (l.map (·.1)).Nodup → l.lookup x = some v → l.reverse.lookup x = some v := by
 intro l x v hn h
 have hm := mem_of_lookup h
 have hmr : (x, v) ∈ l.reverse := List.mem_reverse.mpr hm
 have hnr : (l.reverse.map (·.1)).Nodup := by rw [List.map_reverse]; exact ((List.reverse_perm _).nodup_iff.mpr hn)
 have : ∀ {l : List (Str × α)}, (l.map (·.1)).Nodup → (x, v) ∈ l → l.lookup x = some v := by
  intro l
  induction l with
  | nil => intro _ h; cases h
  | cons p r ih =>
   intro hn h
   simp only [List.map_cons, List.nodup_cons] at hn
   rw [List.lookup_cons]
   refine Or.elim (List.mem_cons.mp h) (fun e => ?_) (fun h => ?_)
   ·subst e; simp
   ·have hne : (x == p.1) = false := by
     rw [beq_eq_false_iff_ne]
     exact fun q => hn.1 (List.mem_map.mpr ⟨_, h, q⟩)
    rw [hne]; exact ih hn.2 h
 exact this hnr hmr
theorem fnG_K {G : Gd} {n : Nat} {K : Frag} (hK : G.K = K) {f : Addr} {body : List Stmt} (ρ : Loc) (c : Own) {R : D → Own → Prop} {R' : Nat → D → Loc → Own → Prop}
  (ho : isFnAt K f = true) (hcd : codeIn K (fnAt K f).code (fnAt K f).qualname = true) (hbody : (fnAt K f).body = .stmts body)
  (hbind : ∀ vs : List Value, vs.length = ρ.length → bindArgs (fnAt K f) ⟨vs, []⟩ = pure ((ρ.map (·.1)).zip vs)) (hclo : (fnAt K f).closure = []) (hnd : noDup (ρ.map (·.1)) = true)
  (hkind : ((ρ.map (·.1)).all fun x => (fnAt K f).scope.names.lookup x == some .local || (fnAt K f).scope.names.lookup x == some .cell) = true)
  (hgl : (fnAt K f).globals = mainGlobals) (hbl : (fnAt K f).builtins = builtinsNs)
  (hco : (fnAt K f).scope.isCoroutine = false) (hgen : (fnAt K f).scope.isGenerator = false) (hk : (fnAt K f).scope.kind = .function)
  (h : ∀ G' : Gd, G'.K = K → (∀ b ∈ keysOf c, G'.H₀.get? b = none) → ∀ X L, Ex G' n (callEnvC (fnAt K f) L f) ρ c [body] (Out.fnG X (R' L)))
  (hR : ∀ L d ρ' ow', R' L d ρ' ow' → ∃ cs : List (Str × D), (∀ p ∈ cs, ρ'.lookup p.1 = some p.2 ∧ (fnAt K f).scope.names.lookup p.1 = some .cell) ∧ (cs.map (·.1)).Nodup ∧ R d (cellsOwn (callEnvC (fnAt K f) L f) cs ++ ow')) : FnG G (n + 1) (.ref f) (ρ.map (·.2)) c R := by
 subst hK
 refine el31 (fnAt_of ho) fun oc od osl e => ?_
 have hz : (ρ.map (·.1)).zip (ρ.map (·.2)) = ρ := by
  clear h hkind hnd hbind
  induction ρ with
  | nil => rfl
  | cons x r ih => simp [List.zip_map']
 refine fnG_of e hcd hbody (ns := ρ.map (·.1)) ?_ hclo (nodup_of hnd) (by simp) hkind hgl hbl hco hgen hk (fun G' hK' hb' X L => ?_) hR
 ·intro vs hv; exact hbind vs (by simpa using hv)
 ·rw [hz]; exact h G' hK' hb' X L
theorem no_cells {K : Frag} {f : Addr} {R : D → Own → Prop} : ∀ L d (ρ' : Loc) ow', R d ow' → ∃ cs : List (Str × D), (∀ p ∈ cs, ρ'.lookup p.1 = some p.2 ∧ (fnAt K f).scope.names.lookup p.1 = some .cell) ∧ (cs.map (·.1)).Nodup ∧ R d (cellsOwn (callEnvC (fnAt K f) L f) cs ++ ow') :=
 fun L d ρ' ow' r => ⟨[], fun _ q => (nomatch q), .nil, r⟩
structure FnGd (G : Gd) (n : Nat) (df : D) (ds : List D) (c : Own) (R : D → Own → Prop) : Prop where
 go : ∀ (X : List Addr) (A : Around) (s : Shared) (E : Value → Shared → Prop) (v : Value) (vs : List Value), Room n A → G.H₀.StaysIn s.heap → Live X s.heap → Rep X s.heap v df → RepAll X s.heap vs ds → OwnAll G X s.heap c →
  wpAny (model G.prog G.w) A (call v vs) (FQ G X c R s) E s
noncomputable abbrev closOf (cl : List (Str × Addr × D)) : List (Str × Addr) := cl.map fun p => (p.1, p.2.1)
noncomputable abbrev cellsAt (cl : List (Str × Addr × D)) : Own := cl.map fun p => (p.2.1, OO.cell p.2.2)
noncomputable abbrev namesAt (cl : List (Str × Addr × D)) : Loc := cl.map fun p => (p.1, p.2.2)
noncomputable abbrev closEnv (qual : Str) (scope : Scope) (clos : List (Str × Addr)) (L a : Addr) (cd : Value) : Env := newEnv scope L mainGlobals clos (qual ++ ".<locals>.") (some a) cd none builtinsNs
theorem clos_lookup : ∀ {cl : List (Str × Addr × D)} {x : Str} {a : Addr}, (closOf cl).lookup x = some a → ∃ d, (namesAt cl).lookup x = some d ∧ (a, OO.cell d) ∈ cellsAt cl
 | [], _, _, h => by injection h
 | p :: r, x, a, h => by
  simp only [closOf, List.map_cons, List.lookup_cons] at h
  simp only [namesAt, cellsAt, List.map_cons, List.lookup_cons]
  cases hb : x == p.1 with
  | true => rw [hb] at h; (injection h with y0; subst y0); exact ⟨_, rfl, List.mem_cons_self ..⟩
  | false =>
   rw [hb] at h
   refine el12 (clos_lookup h) fun d h1 h2 => ?_
   exact ⟨d, h1, List.mem_cons_of_mem _ h2⟩
theorem names_lookup : ∀ {cl : List (Str × Addr × D)} {x : Str} {d : D}, (namesAt cl).lookup x = some d → ∃ a, (closOf cl).lookup x = some a ∧ (a, OO.cell d) ∈ cellsAt cl
 | [], _, _, h => by injection h
 | p :: r, x, d, h => by
  simp only [namesAt, List.map_cons, List.lookup_cons] at h
  simp only [closOf, cellsAt, List.map_cons, List.lookup_cons]
  cases hb : x == p.1 with
  | true => rw [hb] at h; (injection h with y0; subst y0); exact ⟨_, rfl, List.mem_cons_self ..⟩
  | false =>
   rw [hb] at h
   refine el12 (names_lookup h) fun a h1 h2 => ?_
   exact ⟨a, h1, List.mem_cons_of_mem _ h2⟩
theorem clos_pair : ∀ {cl : List (Str × Addr × D)}, ((cellsAt cl).map (·.1)).Nodup → (closOf cl).Pairwise fun x y => x.2 ≠ y.2
 | [], _ => .nil
 | p :: r, hn => by
  simp only [List.map_cons, List.nodup_cons] at hn
  simp only [closOf, List.map_cons, List.pairwise_cons]
  refine ⟨fun z hz w => ?_, clos_pair hn.2⟩
  refine el12 (List.mem_map.mp hz) fun z' hz' y0 => ?_; subst y0
  exact hn.1 (List.mem_map.mpr ⟨(z'.2.1, OO.cell z'.2.2), List.mem_map.mpr ⟨z', hz', rfl⟩, w.symm⟩)
theorem clos_own : ∀ {cl : List (Str × Addr × D)}, (cl.map (·.1)).Nodup → ∀ p ∈ cl, (closOf cl).lookup p.1 = some p.2.1
 | [], _, p, hp => by cases hp
 | p :: r, hcn, p', hp' => by
  simp only [List.map_cons, List.nodup_cons] at hcn
  simp only [closOf, List.map_cons, List.lookup_cons]
  focus (refine Or.elim (List.mem_cons.mp hp') (fun y0 => ?_) (fun hp' => ?_); subst y0)
  ·simp
  ·have hne : (p'.1 == p.1) = false := by
    rw [beq_eq_false_iff_ne]
    exact fun z => hcn.1 (List.mem_map.mpr ⟨p', hp', z⟩)
   rw [hne]; exact clos_own hcn.2 p' hp'
theorem fnG_clos {G : Gd} {n : Nat} {qual : Str} {params : Arguments} {body : List Stmt} {scope : Scope} {cl : List (Str × Addr × D)} {ns : List Str} {ds : List D} {c : Own} {R : D → Own → Prop} {R' : D → Loc → Own → Prop}
  (hbind : ∀ (fd : FuncData) (vs : List Value), FnTold qual params (.stmts body) scope (closOf cl) fd → vs.length = ds.length → bindArgs fd ⟨vs, []⟩ = pure (ns.zip vs)) (hnd : ns.Nodup) (hlen : ns.length = ds.length)
  (hkind : ∀ x ∈ ns, scope.names.lookup x = some .local) (hfree : ∀ p ∈ cl, scope.names.lookup p.1 = some .free) (hcell : ∀ x ∈ scope.names, x.2 ≠ .cell) (hcn : (cl.map (·.1)).Nodup)
  (hco : scope.isCoroutine = false) (hgen : scope.isGenerator = false) (hk : scope.kind = .function)
  (h : ∀ G' : Gd, G'.K = G.K → (∀ b ∈ keysOf (cellsAt cl ++ c), G'.H₀.get? b = none) → ∀ X L a cd, Ex G' n (closEnv qual scope (closOf cl) L a cd) (ns.zip ds ++ namesAt cl) c [body] (Out.fnG X R'))
  (hR : ∀ d ρ' ow', R' d ρ' ow' → (∀ p ∈ cl, ρ'.lookup p.1 = some p.2.2) ∧ R d (cellsAt cl ++ ow')) : FnGd G (n + 1) (.fn (FnTold qual params (.stmts body) scope (closOf cl)) qual) ds (cellsAt cl ++ c) R := .mk <| fun X A s E v vs Rm hb hX hv ra ow => by
 refine Rep.eFn hv @fun a ob fd ho hcls hdat hT hf hcd => ?_
 have hT' := hT
 obtain ⟨t1, t2, t3, t4, t5, t6, t7, t8, t9⟩ := hT
 have K₁ : G.K.In s.heap := G.X.keeps hb
 have hvl : vs.length = ds.length := ra.length
 have hrec : s.heap.CodeRec fd.code fd.qualname := by
  rw [t1]
  generalize fd.code = cv at hcd
  cases hcd with | code e1 e2 e3 e4 e5 => exact ⟨_, _, _, _, rfl, e1, e3, e4⟩
 refine wpAny_call (codeAny_call_function Rm.depth ho hdat (by rw [t4]; exact hco) (by rw [t4]; exact hgen) t3 hrec ?_)
 rw [hbind fd vs hT' hvl]
 refine wpAny_pure ?_
 rw [t4, t5, t6, t1, t9]
 have lnone : s.heap.get? s.heap.objs.size = none := none_at (Nat.le_refl _)
 refine wpAny_newFunctionEnv hcell (fun x hx => hkind x.1 (List.of_mem_zip (a := x.1) (b := x.2) hx).1) (fun h' hns hs => ?_) hk
 have up : ∀ b o, s.heap.get? b = some o → h'.get? b = some o := fun b o e => hs.extBut b o (Nat.ne_of_lt (Heap.lt_size e)) (Heap.get?_push_of_some _ e)
 have hg : Grow s { s with heap := h', toks := s.toks + (ns.zip vs).length } := .of up
 refine ⟨(G.T.nolimit.keeps hb).keeps up, codeAny_func ?_⟩
 have ownS : ∀ p ∈ cellsAt cl ++ c, ∃ o, s.heap.get? p.1 = some o := fun p hp => own_there (ow.all p hp).1
 have cX : ∀ a ∈ keysOf (cellsAt cl ++ c), a ∈ X := fun a q => by refine el12 (List.mem_map.mp q) fun p hp y0 => ?_; subst y0; exact (ow.all p hp).2
 have hnd2 := ow.nd
 rw [keysOf, List.map_append, List.nodup_append] at hnd2
 have cellS : ∀ y b, (closOf cl).lookup y = some b → ∃ d, (namesAt cl).lookup y = some d ∧ (b, OO.cell d) ∈ cellsAt cl := fun y b q => clos_lookup q
 have cellK : ∀ y b, (closOf cl).lookup y = some b → b ∈ keysOf (cellsAt cl) := fun y b q => by refine el12 (cellS y b q) fun d _ hm => ?_; exact List.mem_map.mpr ⟨_, hm, rfl⟩
 have F : Fits (G.at s (cellsAt cl ++ c) hb ow.apart) (closEnv qual scope (closOf cl) s.heap.objs.size a fd.code) X (ns.zip ds ++ namesAt cl) c { s with heap := h', toks := s.toks + (ns.zip vs).length } := by
  refine ⟨fun b o e => hg.heap b o (of_hideAll _ e), hk, rfl, rfl, ⟨_, hns⟩, fun x d' e => ?_, fun p hp => ?_, hnd2.2.1, hX.keeps hg.heap, fun b o e q => ?_, fun y y' b q q' => ?_, fun y b q => ?_, fun p hp => ⟨fun q => ?_, fun y b hy q => ?_⟩⟩
  ·rw [List.lookup_append] at e
   cases e1 : (ns.zip ds).lookup x with
   | some d'' =>
    rw [e1] at e
    (injection e with y0; subst y0)
    refine el12 (zip_lookup ra e1) fun v' hv' hr => ?_
    have hnd' : ((ns.zip vs).map (·.1)).Nodup := by rw [List.map_fst_zip (by omega)]; exact hnd
    exact .loc _ v' (hkind x (List.of_mem_zip (a := x) (b := v') (mem_of_lookup hv')).1) hns (lookup_rev hnd' hv') (hr.keeps hg.heap)
   | none =>
    rw [e1] at e
    have e : (namesAt cl).lookup x = some d' := e
    refine el12 (names_lookup e) fun b hb' hm => ?_
    refine el12 ((ow.all _ (List.mem_append_left _ hm)).1) fun v' hv' hr => ?_
    refine el12 (List.mem_map.mp (mem_of_lookup e)) fun p hp hpe => ?_
    have hx : p.1 = x := (Prod.mk.inj hpe).1
    exact .cell b v' (.inr (by rw [← hx]; exact hfree p hp)) hb' (hv'.keeps hg.heap) (hr.keeps hg.heap)
  ·have := ow.all p (List.mem_append_right _ hp)
   exact ⟨this.1.keeps hg.heap, this.2⟩
  ·have e0 : (hideAll s.heap (keysOf (cellsAt cl ++ c))).get? b = some o := e
   have e' := of_hideAll _ e0
   have hh : ∀ z, z ∈ keysOf (cellsAt cl ++ c) → z ≠ b := fun z hz w => by
    subst w
    have : (hideAll s.heap (keysOf (cellsAt cl ++ c))).get? z = none := hideAll_none _ hz
    rw [this] at e0; injection e0
   rcases q with q | ⟨y, q⟩ | q
   ·rw [q] at e'; exact absurd (Heap.lt_size e') (Nat.lt_irrefl _)
   ·exact hh b (by rw [keysOf, List.map_append]; exact List.mem_append_left _ (cellK y b q)) rfl
   ·exact hh b (by rw [keysOf, List.map_append]; exact List.mem_append_right _ q) rfl
  ·have hp : (closOf cl).Pairwise fun x y => x.2 ≠ y.2 := clos_pair hnd2.1
   exact cells_mem_lookup hp y y' b q q'
  ·refine el12 (cellS y b q) fun d _ hm => ?_
   refine el12 ((ow.all _ (List.mem_append_left _ hm)).1) fun v' hv' _ => ?_
   exact ⟨_, hv'.keeps hg.heap⟩
  ·refine el11 (ownS p (List.mem_append_right _ hp)) fun o e => ?_
   rw [show p.1 = s.heap.objs.size from q] at e
   exact Nat.lt_irrefl _ (Heap.lt_size e)
  ·exact hnd2.2.2 b (cellK y b hy) p.1 (List.mem_map.mpr ⟨p, hp, rfl⟩) q.symm
 refine wpAny_mono ((h (G.at s (cellsAt cl ++ c) hb ow.apart) rfl (fun b q => hideAll_none _ q) X s.heap.objs.size a fd.code).go X _ _ _ Rm.deeper (fun _ q => q) F) (fun fl s' q => ?_) fun _ _ y => y
 obtain ⟨t, q⟩ := q
 have hkeep : KeepBut (keysOf (cellsAt cl ++ c)) s s' := by
  refine ⟨⟨t.same.os, t.same.bare⟩, fun b o p e => t.heap b o (fun z => ?_) (up b o e)⟩
  rcases z with z | ⟨y, z⟩ | z
  ·rw [z] at e; exact Nat.lt_irrefl _ (Heap.lt_size e)
  ·exact p (by rw [keysOf, List.map_append]; exact List.mem_append_left _ (cellK y b z))
  ·exact p (by rw [keysOf, List.map_append]; exact List.mem_append_right _ z)
 have fin : ∀ (v : Value) (d : D) (X' : List Addr) (ρ' : Loc) (ow' : Own), (∀ a ∈ X, a ∈ X') → Rep X' s'.heap v d → R' d ρ' ow' → Fits (G.at s (cellsAt cl ++ c) hb ow.apart) (closEnv qual scope (closOf cl) s.heap.objs.size a fd.code) X' ρ' ow' s' → FQ G X (cellsAt cl ++ c) R s v s' := fun v d X' ρ' ow' hB r hr F' => by
  refine el02 (hR d ρ' ow' hr) fun hcs hRR => ?_
  have hlk : ∀ p ∈ cl, (closOf cl).lookup p.1 = some p.2.1 := clos_own hcn
  refine el12 (end_core (cs := cl.map fun p => (p.1, p.2.2)) rfl (fun b o e => hideAll_get _ (hb b o e) fun z => (by rw [ow.apart b z] at e; cases e)) hB cX F' hkeep (fun p hp => by
   obtain ⟨p', hp', rfl⟩ := List.mem_map.mp hp
   refine ⟨hcs p' hp', by show scope.names.lookup p'.1 ≠ _; rw [hfree p' hp']; decide, p'.2.1, hlk p' hp', .inl ?_⟩
   rw [keysOf, List.map_append]; exact List.mem_append_left _ (cellK _ _ (hlk p' hp'))) (by rw [List.map_map]; exact hcn)) fun X'' L hto => ?_
  have e : cellsOwn (closEnv qual scope (closOf cl) s.heap.objs.size a fd.code) (cl.map fun p => (p.1, p.2.2)) = cellsAt cl := by
   simp only [cellsOwn, List.map_map]
   refine List.map_congr_left fun p hp => ?_
   show (((closOf cl).lookup p.1).getD 0, OO.cell p.2.2) = _
   rw [hlk p hp]; rfl
  rw [e] at L
  exact ⟨d, _, X'', hRR, hto v d r, L⟩
 cases fl with
 | ret v => obtain ⟨d, X', ρ', ow', hB, r, hr, F'⟩ := q; exact fin v d X' ρ' ow' hB r hr F'
 | next => obtain ⟨X', ρ', ow', hB, hr, F'⟩ := q; exact fin .none .none X' ρ' ow' hB .none hr F'
 | _ => obtain ⟨_, _, _, _, e, _⟩ := q; exact e.elim
end
section
open Builtin Builtin.ObjectAttr
theorem ns_look_in {h : Heap} {a : Addr} {m : Str → Option Value} (x : h.Ns a m) : ∃ o, h.get? a = some o ∧ ∀ name, lookIn name o = some (m name) := by
 refine el34 x fun o es ep ho hd hs hm => ?_
 refine ⟨o, ho, fun name => ?_⟩
 unfold lookIn
 rw [hd]
 dsimp only
 rw [← hm name]
 unfold nsFind findBy
 rw [← Array.find?_toList]
 cases e : es.toList.find? (fun e => e.key.isStr name) with
 | some en => rfl
 | none =>
  dsimp only
  rw [if_neg]
  ·rfl
  ·intro q
   refine el12 (List.any_eq_true.mp q) fun en hen hr => ?_
   refine el21 (hs en (by simpa using hen)) fun n t hk => ?_
   unfold DictEntry.refKey at hr
   rw [hk] at hr; injection hr
noncomputable def plainCls (K : Frag) (C : Addr) : Bool := (clsIn K C).any (·.hasDict) && findIn K (.ref C) "__getattribute__" == some (some (.builtin "object.__getattribute__")) && findIn K (.ref C) "__getattr__" == some none && findIn K (.ref C) "__setattr__" == some (some (.builtin "object.__setattr__")) && plainOver K C
noncomputable def ownName (K : Frag) (C : Addr) (x : Str) : Bool := findIn K (.ref C) x == some none
noncomputable def methAt (K : Frag) (C : Addr) (x : Str) (f : Addr) : Bool := findIn K (.ref C) x == some (some (.ref f)) && typeIn K (.ref f) == some (.type "function")
structure PlainCls (K : Frag) (C : Addr) : Prop where
 cd : ∃ cd, clsIn K C = some cd ∧ cd.hasDict = true
 ga : findIn K (.ref C) "__getattribute__" = some (some (.builtin "object.__getattribute__"))
 gat : findIn K (.ref C) "__getattr__" = some none
 sa : findIn K (.ref C) "__setattr__" = some (some (.builtin "object.__setattr__"))
 over : plainOver K C = true
theorem PlainCls.of {K : Frag} {C : Addr} (h : plainCls K C = true) : PlainCls K C := by
 unfold plainCls at h
 simp only [Bool.and_eq_true, beq_iff_eq] at h
 refine el02 h fun y0 => ?_; refine el02 y0 fun y0 => ?_; refine el02 y0 fun y0 => ?_; refine el02 y0 fun h1 h2 => ?_; intro h3; intro h4; intro h5
 exact ⟨any_some h1, h2, h3, h4, h5⟩
noncomputable def handedD : D → Bool | .raw (.builtin _) => false | _ => true
theorem handed_of {X : List Addr} {h : Heap} {v : Value} {d : D} (r : Rep X h v d) (hd : handedD d = true) : handedIn v = true := by
 cases r with
 | raw v => cases v <;> first | rfl | (injection hd; done)
 | _ => rfl
theorem inst_at {h : Heap} {x C dx : Addr} {m : Str → Option Value} (hx : h.get? x = some (instObj C dx)) (hn : h.Ns dx m) : ∃ o, InstAt h x (instObj C dx) C (some o) ∧ ∀ name, lookIn name o = some (m name) := by
 refine el12 (ns_look_in hn) fun o ho hl => ?_
 exact ⟨o, ⟨hx, rfl, rfl, ho⟩, hl⟩
section
variable {prog : Program} {w : World} {A : Around} {E : Value → Shared → Prop} {s : Shared} {K : Frag} {x C dx : Addr} {m : Str → Option Value} {name : Str}
theorem attr_own {expr : Bool} {v : Value} {Q : Value → Shared → Prop} (X : K.In s.heap) (P : PlainCls K C) (hx : s.heap.get? x = some (instObj C dx)) (hn : s.heap.Ns dx m) (hm : m name = some v) (hc : ownName K C name = true) (hh : handedIn v = true) (h : Q v { s with toks := s.toks + 1 }) :
  wpAny (model prog w) A (getAttr (.ref x) name expr) Q E s := by
 refine el12 (inst_at hx hn) fun o I hl => ?_
 refine el12 P.cd fun cd hcd hd => ?_
 refine get_value X I P.ga ?_ hh h
 unfold findObj
 rw [hcd, Option.bind_some, show findIn K (.ref C) name = some none from beq_iff_eq.mp hc, Option.bind_some]
 dsimp only
 rw [Option.bind_some, Option.bind_some]
 have : W.ownOf cd (some o) name = some (some v) := by
  unfold W.ownOf
  rw [if_pos hd]; dsimp only
  rw [hl name, hm]
 rw [this]; rfl
theorem method_of {f : Addr} {pl : Sem Bool} {Q : Value × List Value → Shared → Prop} (X : K.In s.heap) (P : PlainCls K C) (hx : s.heap.get? x = some (instObj C dx)) (hn : s.heap.Ns dx m) (hm : m name = none) (hf : methAt K C name f = true) (h : Q (.ref f, [.ref x]) s) :
  wpAny (model prog w) A (getMethod (.ref x) name pl) Q E s := by
 refine el12 (inst_at hx hn) fun o I hl => ?_
 unfold methAt at hf
 refine el02 (Bool.and_eq_true_iff.mp hf) fun h1 h2 => ?_
 have h1 := beq_iff_eq.mp h1
 have h2 := beq_iff_eq.mp h2
 unfold getMethod
 refine wpAny_bind ((I.type.andThen (looks_findIn X P.ga)).here ?_)
 dsimp only
 rw [if_neg (by decide)]
 refine wpAny_bind ((I.type.andThen (looks_findIn X P.gat)).here ?_)
 rw [if_neg (by decide)]
 refine wpAny_bind ((I.type.andThen (looks_findIn X h1)).here ?_)
 dsimp only
 refine wpAny_bind ((looks_typeIn X h2).here ?_)
 rw [if_neg (by decide)]
 refine wpAny_bind (wpAny_loadPart hx ?_)
 dsimp only
 refine wpAny_bind (wpAny_nsGet hn ?_)
 rw [hm, if_neg (by decide)]
 exact wpAny_bind (wpAny_rule (wpAny_pure h))
theorem method_own {v : Value} {pl : Sem Bool} {Q : Value × List Value → Shared → Prop} (X : K.In s.heap) (P : PlainCls K C) (hx : s.heap.get? x = some (instObj C dx)) (hn : s.heap.Ns dx m) (hm : m name = some v) (hc : ownName K C name = true) (hh : handedIn v = true) (h : Q (v, []) { s with toks := s.toks + 1 }) :
  wpAny (model prog w) A (getMethod (.ref x) name pl) Q E s := by
 refine el12 (inst_at hx hn) fun o I hl => ?_
 unfold getMethod
 refine wpAny_bind ((I.type.andThen (looks_findIn X P.ga)).here ?_)
 dsimp only
 rw [if_neg (by decide)]
 refine wpAny_bind ((I.type.andThen (looks_findIn X P.gat)).here ?_)
 rw [if_neg (by decide)]
 refine wpAny_bind ((I.type.andThen (looks_findIn X (beq_iff_eq.mp hc))).here ?_)
 dsimp only
 exact wpAny_bind (attr_own X P hx hn hm hc hh (wpAny_pure h))
theorem nsSet_b {k : Nat} {v : Value} {Q : Unit → Shared → Prop} (hn : NsB s.heap dx m k) (h : ∀ h' k', (k' = k ∨ (k' = k + 1 ∧ m name = none)) → NsB h' dx (fun y => if y = name then some v else m y) k' → Heap.SameBut dx s.heap h' → Q () { s with heap := h', toks := s.toks + 1 }) : wpAny (model prog w) A (nsSet dx name v) Q E s := by
 refine el35 hn fun o es ep ho hd hs hm hsz => ?_
 obtain ⟨c, d, dt, sl⟩ := o
 subst hd
 have hany : es.any (·.refKey) = false := by
  rw [Array.any_eq_false']; intro e he; refine el21 (hs e he) fun n t h => ?_; simp [DictEntry.refKey, h]
 unfold nsSet
 refine wpAny_bind (wpAny_bind (wpAny_askSetting (wpAny_pure (wpAny_bind (wpAny_mkText (wpAny_bind (wpAny_loadPart (s := { s with toks := s.toks + 1 }) ho ?_)))))))
 dsimp only
 rw [aRefKeyMayBeTheName_at, hany, Bool.and_false]
 refine wpAny_updatePart (s := { s with toks := s.toks + 1 }) ho ?_
 cases hi : es.findIdx? (·.key.isStr name) with
 | some i =>
  refine h _ k (.inl rfl) ⟨_, _, ep, Heap.get?_update_self _ ho (by simp only [Obj.putName_eq, Obj.putNameByArray, hi]; rfl), by simp only [Obj.putName_eq, Obj.putNameByArray, hi]; rfl, hs.modify _ _, fun x => ?_, by simpa using hsz⟩ (Heap.SameBut.update ..)
  show _ = if x = name then some v else m x
  rw [← hm]; exact findBy_modify (fun n v => v.isStr n) Value.isStr_inj es name x v i hi
 | none =>
  have hmn : m name = none := by
   rw [← hm]
   unfold nsFind findBy
   have : es.find? (fun e => e.key.isStr name) = none := by
    rw [Array.find?_eq_none]; intro e he
    simpa using (Array.findIdx?_eq_none_iff.mp hi) e he
   rw [this]; rfl
  refine h _ (k + 1) (.inr ⟨rfl, hmn⟩) ⟨_, _, ep + 1, Heap.get?_update_self _ ho (by simp only [Obj.putName_eq, Obj.putNameByArray, hi]; rfl), by simp only [Obj.putName_eq, Obj.putNameByArray, hi]; rfl, hs.push _ _ _ _, fun x => ?_, by simpa using hsz⟩ (Heap.SameBut.update ..)
  show _ = if x = name then some v else m x
  rw [← hm]
  exact findBy_push (fun n v => v.isStr n) es name x _ _ v (fun y => by
   show (name == y) = decide (y = name)
   rw [Bool.eq_iff_iff, beq_iff_eq, decide_eq_true_iff]; exact ⟨Eq.symm, Eq.symm⟩) hi
theorem set_attr {k : Nat} {v : Value} {Q : Unit → Shared → Prop} (X : K.In s.heap) (P : PlainCls K C) (hx : s.heap.get? x = some (instObj C dx)) (hn : NsB s.heap dx m k) (hk : k ≤ 1000) (hc : ownName K C name = true)
  (h : ∀ h' k', (k' = k ∨ (k' = k + 1 ∧ m name = none)) → NsB h' dx (fun y => if y = name then some v else m y) k' → Heap.SameBut dx s.heap h' → ∀ tk, Q () { s with heap := h', toks := tk }) : wpAny (model prog w) A (setAttr (.ref x) name v) Q E s := by
 refine el12 (inst_at hx hn.ns) fun o I hl => ?_
 refine el12 P.cd fun cd hcd hd => ?_
 refine set_plain X I P.sa (osa_open (r := none) (s := { s with toks := s.toks + 1 }) X I P.over (by unfold takerIn; rw [show findIn K (.ref C) name = some none from beq_iff_eq.mp hc]; rfl) fun b => ?_)
 dsimp only
 refine wpAny_bind (wpAny_pure (wpAny_bind (wpAny_bind (wpAny_loadPart (s := { s with toks := s.toks + 1 }) hx (wpAny_bind (looks_clsIn X hcd _ _ _ _ (fun _ _ e => e) ?_))))))
 rw [hd]
 refine wpAny_pure (a := some dx) (wpAny_bind (wpAny_pure (wpAny_bind ?_)))
 refine nsSet_b (s := { s with toks := s.toks + 1 }) hn fun h' k' hk' hn' hs' => ?_
 refine el35 (id hn') fun o' es' ep' ho' hd' _ _ hsz' => ?_
 refine wpAny_bind (wpAny_lookBehind ho' (by rw [hd']; exact pastItsLine_dict (by rw [sizeLine_eq]; omega)) ?_)
 exact wpAny_pure (h h' k' hk' hn' hs' _)
end
end
section
noncomputable def putF (x : Str) (d : D) : Loc → Loc
 | [] => [(x, d)]
 | (y, e) :: r => if y == x then (y, d) :: r else (y, e) :: putF x d r
theorem putF_lookup (x : Str) (d : D) : ∀ (fs : Loc) (y : Str), (putF x d fs).lookup y = if y = x then some d else fs.lookup y
 | [], y => by
  simp only [putF, List.lookup_cons, List.lookup_nil]
  by_cases h : y = x
  ·subst h; simp
  ·rw [if_neg h, beq_eq_false_iff_ne.mpr h]
 | (z, e) :: r, y => by
  unfold putF
  by_cases hz : (z == x) = true
  ·rw [if_pos hz]
   have hz := beq_iff_eq.mp hz
   subst hz
   rw [List.lookup_cons, List.lookup_cons]
   by_cases h : y = z
   ·subst h; simp
   ·rw [if_neg h, beq_eq_false_iff_ne.mpr h]
  ·rw [if_neg hz, List.lookup_cons, List.lookup_cons, putF_lookup x d r y]
   by_cases h : y = z
   ·subst h
    simp only [beq_self_eq_true]
    rw [if_neg (fun q => hz (by simp [q]))]
   ·rw [beq_eq_false_iff_ne.mpr h]
set_option tactic.hygienic true in
theorem putF_len (x : Str) (d : D) : ∀ (fs : Loc), (putF x d fs).length = if (fs.lookup x).isSome then fs.length else fs.length + 1
 | [] => rfl
 | (z, e) :: r => by
  unfold putF
  by_cases hz : (z == x) = true
  ·rw [if_pos hz, List.lookup_cons, show (x == z) = true by rw [beq_iff_eq.mp hz]; exact beq_self_eq_true _]; rfl
  ·have hz' : (x == z) = false := by rw [beq_eq_false_iff_ne]; exact fun q => hz (by rw [q]; exact beq_self_eq_true _)
   rw [if_neg hz, List.lookup_cons, hz', List.length_cons, putF_len x d r]
   split <;> rename_i h <;> simp [h]
section
variable {G : Gd} {n : Nat} {env : Env} {ρ : Loc} {ow : Own} {bs : List (List Stmt)} {o : Out}
noncomputable abbrev AttrEq (env : Env) (oe : Expr) (name : Str) (apos : Pos) : Prop := eval (.Attribute oe name apos) env = (do
   let o ← eval oe env
   standAt apos.atName
   let r ← holding [o] (getAttr o name true)
   letTemporaryGo oe o r
   pure r)
theorem ev_attr {oe : Expr} {name : Str} {apos : Pos} {C dx : Addr} {fs : Loc} {d : D} (he : AttrEq env oe name apos) (ho : Ev G n env ρ ow oe (.inst C dx)) (hm : (dx, OO.ns fs) ∈ ow) (hf : fs.lookup name = some d)
  (hp : plainCls G.K C = true) (hc : ownName G.K C name = true) (hd : handedD d = true) : Ev G n env ρ ow (.Attribute oe name apos) d := .mk fun X A s E R F => by
 refine Attribute_any_ (wpAny_mono (ho.go X A s E R F) (fun v s₁ q => ?_) fun _ _ y => y) he
 obtain ⟨q, g⟩ := q
 have F₁ := F.keeps g
 refine Rep.eInst q fun e f => ?_
 refine el13 ((F₁.owns _ hm).1) fun m hn h1 h2 => ?_
 refine el12 (h2 name d hf) fun v hv r => ?_
 exact attr_own (G.X.keeps F₁.base) (PlainCls.of hp) e hn.ns hv hc (handed_of r hd) ⟨r, g.trans (.toks _ _)⟩
theorem ex_setattr {oe e : Expr} {name : Str} {ap pos : Pos} {rest : List Stmt} {C dx : Addr} {fs : Loc} {d : D} {ow' : Own} (hs : swapsWith e (some (.Attribute oe name ap)) pos.line env = pure false) (he : Ev G n env ρ ow e d) (ho : Ev G n env ρ ow oe (.inst C dx))
  (hx : OSet dx (.ns fs) (.ns (putF name d fs)) ow ow') (hp : plainCls G.K C = true) (hc : ownName G.K C name = true) (hl : fs.length ≤ 1000) (h : Ex G n env ρ ow' (rest :: bs) o) :
  Ex G n env ρ ow ((.Assign [.Attribute oe name ap] e pos :: rest) :: bs) o := .mk fun X A s E R B F => by
 refine wpAny_execs_cons (plainObj_wpAny_Assign_Attribute (wpAny_mono (he.go X A s E R F) (fun v s₁ q₁ => ?_) fun _ _ y => y) hs)
 refine wpAny_mono (ho.go X A s₁ E R (F.keeps q₁.2)) (fun ov s₂ q₂ => ?_) fun _ _ y => y
 obtain ⟨q₂, g₂⟩ := q₂
 have F₂ := F.keeps (q₁.2.trans g₂)
 refine Rep.eInst q₂ fun e f => ?_
 refine el13 ((F₂.owns _ hx.mem).1) fun m hn h1 h2 => ?_
 refine set_attr (G.X.keeps F₂.base) (PlainCls.of hp) e hn hl hc fun h' k' hk' hn' hs' tk => ?_
 have hdX := (F₂.owns _ hx.mem).2
 have hsame : Same X s₂.heap h' := .of_but hs' (.inl hdX)
 have hlen : k' ≤ (putF name d fs).length := by
  rw [putF_len]
  cases hl' : fs.lookup name with
  | none =>
   have := h1 name hl'
   rcases hk' with rfl | ⟨rfl, _⟩ <;> simp
  | some d' =>
   refine el12 (h2 name d' hl') fun v' hv' _ => ?_
   rcases hk' with rfl | ⟨rfl, hno⟩
   ·simp
   ·rw [hno] at hv'; injection hv'
 have F₃ : Fits G env X ρ ow' { s₂ with heap := h', toks := tk } := F₂.setOwn (tk := tk) hx hs' ⟨_, let ⟨o, es, ep, a, b, c, d, e⟩ := hn'; ⟨o, es, ep, a, b, c, d, Nat.le_trans e hlen⟩, fun y hy => ?_, fun y d' hy => ?_⟩
 ·exact h.from R B F₃ (((q₁.2.trans g₂).turn).trans (.but (t := tk) hs' (.inr (.inr (List.mem_map.mpr ⟨_, hx.mem, rfl⟩))))) fun b q => .inl (mut_same hx.keys q)
 ·rw [putF_lookup] at hy
  by_cases q : y = name
  ·rw [if_pos q] at hy; injection hy
  ·rw [if_neg q] at hy
   show (if y = name then _ else _) = _
   rw [if_neg q]; exact h1 y hy
 ·rw [putF_lookup] at hy
  by_cases q : y = name
  ·rw [if_pos q] at hy
   (injection hy with y0; subst y0)
   exact ⟨v, by simp [q], (q₁.1.keeps g₂.heap).mono hsame⟩
  ·rw [if_neg q] at hy
   refine el12 (h2 y d' hy) fun v' hv' r' => ?_
   exact ⟨v', by simp [q, hv'], r'.mono hsame⟩
theorem ex_setattr_list {oe : Expr} {lp : Pos} {name : Str} {ap pos : Pos} {rest : List Stmt} {C dx : Addr} {fs : Loc} (hs : swapsWith (.List [] lp) (some (.Attribute oe name ap)) pos.line env = pure false)
  (ho : ∀ a, Ev G n env ρ ((a, .list []) :: ow) oe (.inst C dx)) {ow' : Addr → Own}
  (hx : ∀ a, OSet dx (.ns fs) (.ns (putF name (own a) fs)) ((a, .list []) :: ow) (ow' a)) (hp : plainCls G.K C = true) (hc : ownName G.K C name = true) (hl : fs.length ≤ 1000)
  (h : ∀ a, a ∉ o.base → Ex G n env ρ (ow' a) (rest :: bs) o) :
  Ex G n env ρ ow ((.Assign [.Attribute oe name ap] (.List [] lp) pos :: rest) :: bs) o := .mk fun X A s E R B F => by
 have hnone : s.heap.get? s.heap.objs.size = none := none_at (Nat.le_refl _)
 refine wpAny_execs_cons (plainObj_wpAny_Assign_Attribute (List_ (show wpAny _ A (spliced (backTo lp (starEach [] env))) _ E s from spliced_nil (wpAny_newObj_type ?_ (show (0:Nat) ≤ sizeLine from Nat.zero_le _)))) hs)
 have F₁ := F.newOwn (a := s.heap.objs.size) (new := .list []) (h' := s.heap.push { cls := .type "list", dict := none, data := .seq ([] : List Value).toArray }) (tk := s.toks) hnone (fun b o e => Heap.get?_push_of_some _ e) ⟨[], ⟨_, Heap.get?_push_size _ rfl⟩, .nil⟩
 generalize hA : s.heap.objs.size = a at *
 have t₁ : Turn env ow s { s with heap := s.heap.push { cls := .type "list", dict := none, data := .seq ([] : List Value).toArray } } := ⟨.of, fun b o p e => Heap.get?_push_of_some _ e⟩
 have mm : ∀ b, Mut env ((a, .list []) :: ow) b → Mut env ow b ∨ s.heap.get? b = none := fun b q => by
  rcases q with q | q | q
  ·exact .inl (.inl q)
  ·exact .inl (.inr (.inl q))
  ·simp only [List.map_cons, List.mem_cons] at q
   refine Or.elim q (fun q => ?_) (fun q => ?_)
   ·exact .inr (q ▸ hnone)
   ·exact .inl (.inr (.inr q))
 refine wpAny_mono ((ho a).go (a :: X) A _ E R F₁) (fun ov s₂ q₂ => ?_) fun _ _ y => y
 obtain ⟨q₂, g₂⟩ := q₂
 have F₂ := F₁.keeps g₂
 refine Rep.eInst q₂ fun e f => ?_
 refine el13 ((F₂.owns _ (hx a).mem).1) fun m hn h1 h2 => ?_
 refine set_attr (G.X.keeps F₂.base) (PlainCls.of hp) e hn hl hc fun h' k' hk' hn' hs' tk => ?_
 have hdX := (F₂.owns _ (hx a).mem).2
 have hsame : Same (a :: X) s₂.heap h' := .of_but hs' (.inl hdX)
 have hlen : k' ≤ (putF name (own a) fs).length := by
  rw [putF_len]
  cases hl' : fs.lookup name with
  | none =>
   have := h1 name hl'
   rcases hk' with rfl | ⟨rfl, _⟩ <;> simp
  | some d' =>
   refine el12 (h2 name d' hl') fun v' hv' _ => ?_
   rcases hk' with rfl | ⟨rfl, hno⟩
   ·simp
   ·rw [hno] at hv'; injection hv'
 have F₃ : Fits G env (a :: X) ρ (ow' a) { s₂ with heap := h', toks := tk } := F₂.setOwn (tk := tk) (hx a) hs' ⟨_, let ⟨o, es, ep, a, b, c, d, e⟩ := hn'; ⟨o, es, ep, a, b, c, d, Nat.le_trans e hlen⟩, fun y hy => ?_, fun y d' hy => ?_⟩
 ·refine (h a fun q => ?_).from R (fun b q => List.mem_cons_of_mem _ (B b q)) F₃ (ow := ow) ?_ fun b q => mm b (mut_same (hx a).keys q)
  ·refine el11 (F.live a (B a q)) fun ob e => ?_; rw [hnone] at e; injection e
  ·refine ⟨⟨g₂.same.os, g₂.same.bare⟩, fun b ob p e => (hs'.2 b fun q => ?_).trans (g₂.heap b ob (Heap.get?_push_of_some _ e))⟩
   have := mm b (by rw [q]; exact .inr (.inr (List.mem_map.mpr ⟨_, (hx a).mem, rfl⟩)))
   refine Or.elim this (fun z => ?_) (fun z => ?_)
   ·exact p z
   ·rw [z] at e; injection e
 ·rw [putF_lookup] at hy
  by_cases q : y = name
  ·rw [if_pos q] at hy; injection hy
  ·rw [if_neg q] at hy
   show (if y = name then _ else _) = _
   rw [if_neg q]; exact h1 y hy
 ·rw [putF_lookup] at hy
  by_cases q : y = name
  ·rw [if_pos q] at hy
   (injection hy with y0; subst y0)
   exact ⟨.ref a, by simp [q], .raw _⟩
  ·rw [if_neg q] at hy
   refine el12 (h2 y d' hy) fun v' hv' r' => ?_
   exact ⟨v', by simp [q, hv'], r'.mono hsame⟩
end
end
section
section
variable {G : Gd} {n : Nat} {env : Env} {ρ : Loc} {ow : Own} {bs : List (List Stmt)} {o : Out}
theorem left_back {X X' : List Addr} {c c' r : Own} {s s₁ s₂ : Shared} (F₁ : Fits G env X ρ (c ++ r) s₁) (g : Turn env (c ++ r) s s₁) (old : ∀ b, s₁.heap.get? b = none → s.heap.get? b = none) (L : Left G X X' c c' s₁ s₂) :
  NewX X X' s.heap ∧ Fits G env X' ρ (c' ++ r) s₂ ∧ Turn env (c ++ r) s s₂ ∧ (∀ b, Mut env (c' ++ r) b → Mut env (c ++ r) b ∨ s.heap.get? b = none) := by
 refine el03 (F₁.leftover L) fun F₃ t₃ hm => ?_
 exact ⟨⟨L.newX.sub, fun a q => (L.newX.new a q).imp id (old a)⟩, F₃, g.trans t₃, fun b q => (hm b q).imp id (old b)⟩
theorem Grow.old {s s' : Shared} (g : Grow s s') : ∀ b, s'.heap.get? b = none → s.heap.get? b = none := fun b z => by
 cases e : s.heap.get? b with
 | none => rfl
 | some ob => rw [g.heap b ob e] at z; injection z
theorem evG_imeth {oe : Expr} {name : Str} {apos pos : Pos} {e : Expr} {es : List Expr} {C dx f : Addr} {fs : Loc} {ds : List D} {c r : Own} {R : D → Own → Prop} {pl : Sem Bool} (he : MethEq env oe name apos pos (e :: es) pl) (ho : Ev G n env ρ (c ++ r) oe (.inst C dx)) (hm : (dx, OO.ns fs) ∈ c ++ r) (hf : fs.lookup name = none)
  (hp : plainCls G.K C = true) (hmt : methAt G.K C name f = true) (hk : keepIn G.K (.ref f) = true) (ha : EvAll G n env ρ (c ++ r) (e :: es) ds) (hs : noStar (e :: es) = true) (h : FnG G n (.ref f) (.inst C dx :: ds) c R) :
  EvG G n env ρ (c ++ r) (.Call (.Attribute oe name apos) (e :: es) [] pos) fun d ow' => ∃ c', R d c' ∧ ow' = c' ++ r := .mk fun X A s E Rm F => by
 refine MethodCall_ (wpAny_mono (ho.go X A s E Rm F) (fun v s₁ q => ?_) fun _ _ x => x) he
 obtain ⟨q, g⟩ := q
 have F₁ := F.keeps g
 have q' := q
 revert q'
 refine Rep.eInst q fun ex fx q' => ?_
 refine el13 ((F₁.owns _ hm).1) fun m hn h1 h2 => ?_
 refine method_of (G.X.keeps F₁.base) (PlainCls.of hp) ex hn.ns (h1 name hf) hmt ?_
 refine callWith_K (G.X.keeps F₁.base) hk (wpAny_mono (ha.go pos X A s₁ E Rm F₁) (fun vs s₂ q₂ => ⟨G.X.keeps (F₁.keeps q₂.2).base, ?_⟩) fun _ _ x => x) (starEach_cons hs) (backTo_any (noStar_tail hs))
 have F₂ := F₁.keeps q₂.2
 refine wpAny_mono (h.go X A s₂ E (_ :: vs) Rm F₂.base F₂.live (.cons (q'.keeps q₂.2.heap) q₂.1) F₂.own.left) (fun v s₃ q₃ => ?_) fun _ _ x => x
 obtain ⟨d, c', X', r', rep, L⟩ := q₃
 refine el04 (left_back F₂ (g.trans q₂.2).turn (g.trans q₂.2).old L) fun a1 a2 a3 a4 => ?_
 exact ⟨d, c' ++ r, X', ⟨c', r', rfl⟩, a1, rep, a2, a3, a4⟩
theorem evG_imeth0 {oe : Expr} {name : Str} {apos pos : Pos} {C dx f : Addr} {fs : Loc} {c r : Own} {R : D → Own → Prop} {pl : Sem Bool} (he : MethEq env oe name apos pos [] pl) (ho : Ev G n env ρ (c ++ r) oe (.inst C dx)) (hm : (dx, OO.ns fs) ∈ c ++ r) (hf : fs.lookup name = none)
  (hp : plainCls G.K C = true) (hmt : methAt G.K C name f = true) (hk : keepIn G.K (.ref f) = true) (h : FnG G n (.ref f) [.inst C dx] c R) :
  EvG G n env ρ (c ++ r) (.Call (.Attribute oe name apos) [] [] pos) fun d ow' => ∃ c', R d c' ∧ ow' = c' ++ r := .mk fun X A s E Rm F => by
 refine MethodCall_ (wpAny_mono (ho.go X A s E Rm F) (fun v s₁ q => ?_) fun _ _ x => x) he
 obtain ⟨q, g⟩ := q
 have F₁ := F.keeps g
 have q' := q
 revert q'
 refine Rep.eInst q fun ex fx q' => ?_
 refine el13 ((F₁.owns _ hm).1) fun m hn h1 h2 => ?_
 refine method_of (G.X.keeps F₁.base) (PlainCls.of hp) ex hn.ns (h1 name hf) hmt ?_
 refine callWith_K0 (G.X.keeps F₁.base) hk ?_
 refine wpAny_mono (h.go X A s₁ E [_] Rm F₁.base F₁.live (.cons q' .nil) F₁.own.left) (fun v s₃ q₃ => ?_) fun _ _ x => x
 obtain ⟨d, c', X', r', rep, L⟩ := q₃
 refine el04 (left_back F₁ g.turn g.old L) fun a1 a2 a3 a4 => ?_
 exact ⟨d, c' ++ r, X', ⟨c', r', rfl⟩, a1, rep, a2, a3, a4⟩
theorem keeps_fn {M : Model} {f : Addr} {ob : Obj} {fd : FuncData} (hc : ob.cls = .type "function") (hd : ob.data = .func fd) (h : Heap) (e : h.get? f = some ob) : ∃ k, (k = Keeper.frame ∨ k = Keeper.machine ∨ k = Keeper.boundFrame) ∧ Looks M h (keeperOf (.ref f)) k := by
 obtain ⟨c, dd, dt, sl⟩ := ob
 simp only at hc hd
 subst hc hd
 exact ⟨.frame, .inl rfl, (Looks.ld (part := none) e).andThen .now⟩
theorem evG_fattr {oe : Expr} {name : Str} {apos pos : Pos} {e : Expr} {es : List Expr} {C dx : Addr} {fs : Loc} {P : FuncData → Prop} {q : Str} {ds : List D} {c r : Own} {R : D → Own → Prop} {pl : Sem Bool} (he : MethEq env oe name apos pos (e :: es) pl) (ho : Ev G n env ρ (c ++ r) oe (.inst C dx)) (hm : (dx, OO.ns fs) ∈ c ++ r) (hf : fs.lookup name = some (.fn P q))
  (hp : plainCls G.K C = true) (hc : ownName G.K C name = true) (ha : EvAll G n env ρ (c ++ r) (e :: es) ds) (hs : noStar (e :: es) = true) (h : FnGd G n (.fn P q) ds c R) :
  EvG G n env ρ (c ++ r) (.Call (.Attribute oe name apos) (e :: es) [] pos) fun d ow' => ∃ c', R d c' ∧ ow' = c' ++ r := .mk fun X A s E Rm F => by
 refine MethodCall_ (wpAny_mono (ho.go X A s E Rm F) (fun v s₁ q => ?_) fun _ _ x => x) he
 obtain ⟨q, g⟩ := q
 have F₁ := F.keeps g
 refine Rep.eInst q fun ex fx => ?_
 refine el13 ((F₁.owns _ hm).1) fun m hn h1 h2 => ?_
 refine el12 (h2 name _ hf) fun v hv rv => ?_
 refine method_own (G.X.keeps F₁.base) (PlainCls.of hp) ex hn.ns hv hc (handed_of rv rfl) ?_
 have g₁ : Grow s₁ { s₁ with toks := s₁.toks + 1 } := .toks _ _
 have F₁' := F₁.keeps g₁
 have rv₁ := rv
 revert rv₁
 refine Rep.eFn rv @fun fa fo ffd e1 e2 e3 e4 e5 e6 rv₁ => ?_
 have hsp : wpAny (model G.prog G.w) A (spliced (backTo pos (starEach (e :: es) env))) (fun vs s₂ => s₂.heap.get? fa = some fo ∧ wpAny (model G.prog G.w) A (call (.ref fa) ([] ++ vs)) (GQ G env X ρ (c ++ r) (fun d ow' => ∃ c', R d c' ∧ ow' = c' ++ r) s) E s₂) E { s₁ with toks := s₁.toks + 1 } := by
  refine wpAny_mono (ha.go pos X A _ E Rm F₁') (fun vs s₂ q₂ => ⟨q₂.2.heap _ _ e1, ?_⟩) fun _ _ x => x
  have F₂ := F₁'.keeps q₂.2
  have gg := (g.trans g₁).trans q₂.2
  refine wpAny_mono (h.go X A s₂ E _ vs Rm F₂.base F₂.live (rv₁.keeps (g₁.trans q₂.2).heap) q₂.1 F₂.own.left) (fun v s₃ q₃ => ?_) fun _ _ x => x
  obtain ⟨d, c', X', r', rep, L⟩ := q₃
  refine el04 (left_back F₂ gg.turn gg.old L) fun a1 a2 a3 a4 => ?_
  exact ⟨d, c' ++ r, X', ⟨c', r', rfl⟩, a1, rep, a2, a3, a4⟩
 rw [starEach_cons hs] at hsp ⊢
 exact callWith_of (P := fun h => h.get? fa = some fo) (by show ((false || (backTo pos (starEach es env)).any (·.1)) || false) = false; rw [backTo_any (noStar_tail hs)]; rfl) (fun h e => keeps_fn e2 e3 h e) (evalArgs_plain hsp)
theorem Room.under {n : Nat} {A : Around} (x : Room (n + 1) A) (C : Addr) (vs : List Value) : Room n (A.under (.builtin "type.__call__" ⟨.ref C :: vs, []⟩)) := ⟨x.hd, by have := x.dp; show A.depth + 1 + n < _; omega, by have := x.un; show A.units + (Code.builtin "type.__call__" ⟨.ref C :: vs, []⟩).cUnits + 8 * n < _; show A.units + 1 + 8 * n < _; omega⟩
theorem fnG_make {C fI : Addr} {ds : List D} {R : D → Own → Prop} {RI : Addr → Own → Prop} (hm : makesIn G.K C = true) (hi : findIn G.K (.ref C) "__init__" = some (some (.ref fI))) (hf : typeIn G.K (.ref fI) = some (.type "function"))
  (h : ∀ dx, FnG G n (.ref fI) (.inst C dx :: ds) [(dx, .ns [])] (fun d c' => d = .none ∧ RI dx c')) (hR : ∀ dx c', RI dx c' → R (.inst C dx) c') : FnG G (n + 1) (.ref C) ds [] R := .mk fun X A s E vs Rm hb hX ra ow => by
 have K₁ : G.K.In s.heap := G.X.keeps hb
 obtain ⟨hh, gg, dd, tt, os⟩ := s
 refine make_core (makes_of K₁ hm) (looks_findIn K₁ hi) (fun self => bind_fn K₁ self hf) (.inl rfl) ?_
 have hn0 : hh.get? hh.objs.size = none := none_at (Nat.le_refl _)
 have hn1 : hh.get? (hh.objs.size + 1) = none := none_at (Nat.le_succ _)
 have up : ∀ b ob, hh.get? b = some ob → ((hh.push emptyDict).push (instObj C hh.objs.size)).get? b = some ob := fun b ob e => Heap.get?_push_of_some _ (Heap.get?_push_of_some _ e)
 have hinst : ((hh.push emptyDict).push (instObj C hh.objs.size)).get? (hh.objs.size + 1) = some (instObj C hh.objs.size) := by heap_get
 have hdict : ((hh.push emptyDict).push (instObj C hh.objs.size)).get? hh.objs.size = some emptyDict := Heap.get?_push_of_some _ (Heap.get?_push_size _ rfl)
 have nX : ∀ b, hh.get? b = none → b ∉ X := fun b z q => by refine el11 (hX b q) fun ob e => ?_; rw [show (Shared.mk hh gg dd tt os).heap.get? b = hh.get? b from rfl, z] at e; injection e
 have ns0 : NsB ((hh.push emptyDict).push (instObj C hh.objs.size)) hh.objs.size (fun _ => none) 0 := ⟨emptyDict, #[], 0, hdict, rfl, fun _ he => by simp at he, fun _ => rfl, Nat.le_refl _⟩
 have hinst' : Rep (hh.objs.size :: X) ((hh.push emptyDict).push (instObj C hh.objs.size)) (.ref (hh.objs.size + 1)) (.inst C hh.objs.size) := .inst hinst fun q => by
  refine Or.elim (List.mem_cons.mp q) (fun q => ?_) (fun q => ?_)
  ·exact absurd q (Nat.succ_ne_self _)
  ·exact nX _ hn1 q
 refine codeAny_mono ((h hh.objs.size).code (hh.objs.size :: X) _ ⟨(hh.push emptyDict).push (instObj C hh.objs.size), gg, dd, tt, os⟩ E (.ref (hh.objs.size + 1) :: vs) (Rm.under C vs) (fun b ob e => up b ob (hb b ob e)) (fun a q => ?_) (.cons hinst' ?_) ⟨fun p q => ?_, by simp, fun b q => ?_⟩) fun r s' z => ?_
 ·focus (refine Or.elim (List.mem_cons.mp q) (fun y0 => ?_) (fun q => ?_); subst y0)
  ·exact ⟨_, hdict⟩
  ·refine el11 (hX a q) fun ob e => ?_; exact ⟨ob, up a ob e⟩
 ·exact (ra.new (a := hh.objs.size) hn0).keeps up
 ·rw [List.mem_singleton.mp q]
  exact ⟨⟨_, ns0, fun _ _ => rfl, fun _ _ e => by injection e⟩, List.mem_cons_self ..⟩
 ·simp only [List.map_cons, List.map_nil, List.mem_singleton] at q
  subst q
  cases e : G.H₀.get? hh.objs.size with
  | none => rfl
  | some ob => rw [hb _ _ e] at hn0; injection hn0
 ·cases r with
  | error e => exact z
  | ok fl =>
   cases fl with
   | ret v =>
   obtain ⟨d, c', X', ⟨rfl, ri⟩, rep, L⟩ := z
   refine Rep.eNone rep ?_
   refine ⟨rfl, .inst C hh.objs.size, c', X', hR _ _ ri, ?_, ⟨⟨fun a q => L.newX.sub a (List.mem_cons_of_mem _ q), fun a q => ?_⟩, L.live, L.owns, ?_, fun b q => ?_⟩⟩
   ·have hs : (Same X' ((hh.push emptyDict).push (instObj C hh.objs.size)) s'.heap) := L.keep.sameX fun a q => L.newX.sub a (by
     simp only [List.map_cons, List.map_nil, List.mem_singleton] at q; rw [q]; exact List.mem_cons_self ..)
    exact (hinst'.to L.newX.k).mono hs
   ·refine Or.elim (L.newX.new a q) (fun q => ?_) (fun q => ?_)
    ·focus (refine Or.elim (List.mem_cons.mp q) (fun y0 => ?_) (fun q => ?_); subst y0)
     ·exact .inr hn0
     ·exact .inl q
    ·right
     cases e : hh.get? a with
     | none => rfl
     | some ob => rw [show (Shared.mk ((hh.push emptyDict).push (instObj C hh.objs.size)) gg dd tt os).heap.get? a = _ from up a ob e] at q; injection q
   ·refine ⟨⟨L.keep.same.os, L.keep.same.bare⟩, fun b ob p e => L.keep.heap b ob (fun q => ?_) (up b ob e)⟩
    simp only [List.map_cons, List.map_nil, List.mem_singleton] at q
    rw [show (Shared.mk hh gg dd tt os).heap.get? b = hh.get? b from rfl, q, hn0] at e; injection e
   ·right
    refine Or.elim (L.keys b q) (fun q => ?_) (fun q => ?_)
    ·simp only [List.map_cons, List.map_nil, List.mem_singleton] at q
     rw [q]; exact hn0
    ·cases e : hh.get? b with
     | none => rfl
     | some ob => rw [show (Shared.mk ((hh.push emptyDict).push (instObj C hh.objs.size)) gg dd tt os).heap.get? b = _ from up b ob e] at q; injection q
   | _ => exact z.elim
end
end
section
open Builtin Builtin.ObjectAttr
noncomputable def bindAt (K : Frag) (C : Addr) (x : Str) (f : Addr) : Bool := methAt K C x f && specialIn K (.ref f) "__get__" == some (some (.builtin "function.__get__")) && takesIn K (.ref f) == some false && !copiedNames.contains x
section
variable {G : Gd} {n : Nat} {env : Env} {ρ : Loc} {ow : Own} {bs : List (List Stmt)} {o : Out}
theorem ev_bmeth {oe : Expr} {name : Str} {apos : Pos} {C dx f : Addr} {fs : Loc} (he : AttrEq env oe name apos) (ho : Ev G n env ρ ow oe (.inst C dx)) (hm : (dx, OO.ns fs) ∈ ow) (hf : fs.lookup name = none)
  (hp : plainCls G.K C = true) (hb : bindAt G.K C name f = true) : Ev G n env ρ ow (.Attribute oe name apos) (.meth f C dx) := .mk fun X A s E R F => by
 refine Attribute_any_ (wpAny_mono (ho.go X A s E R F) (fun v s₁ q => ?_) fun _ _ y => y) he
 obtain ⟨q, g⟩ := q
 have F₁ := F.keeps g
 have q' := q
 revert q'
 refine Rep.eInst q @fun x e fx q' => ?_
 refine el13 ((F₁.owns _ hm).1) fun m hn h1 h2 => ?_
 have P := PlainCls.of hp
 have K₁ := G.X.keeps F₁.base
 refine el12 (inst_at e hn.ns) fun od I hl => ?_
 refine el12 P.cd fun cd hcd hd => ?_
 unfold bindAt methAt at hb
 simp only [Bool.and_eq_true, beq_iff_eq, Bool.not_eq_true'] at hb
 refine el02 hb fun y0 => ?_; refine el02 y0 fun y0 => ?_; refine el02 y0 fun y0 => ?_; refine el02 y0 fun b1 b2 => ?_; intro b3; intro b4; intro b5
 have hfind : findObj G.K C (some od) name = some (.bind (.builtin "function.__get__") (.ref f)) := by
  unfold findObj
  rw [hcd, Option.bind_some, b1, Option.bind_some]
  dsimp only
  rw [b3, Option.bind_some]
  dsimp only
  rw [b4, Option.bind_some]
  dsimp only
  have : W.ownOf cd (some od) name = some none := by
   unfold W.ownOf
   rw [if_pos hd]; dsimp only
   rw [hl name, h1 name hf]
  rw [this, Option.bind_some]
  dsimp only
  rw [b5, Bool.false_and, if_neg Bool.false_ne_true]
 refine get_bind K₁ I P.ga hfind P.gat (wpAny_call (fn_get (s := { s₁ with toks := s₁.toks + 1 }) K₁ b2 ?_))
 show wpAny _ _ (handedOut (.ref _)) _ _ _
 refine wpAny_of_eq (a := .ref s₁.heap.objs.size) (handedOut_of rfl) ?_
 have hq : s₁.heap.objs.size ∉ X := F₁.live.new
 have up : ∀ b ob, s₁.heap.get? b = some ob → (s₁.heap.push (methodObj (.ref f) (.ref x))).get? b = some ob := fun b ob e => Heap.get?_push_of_some _ e
 refine ⟨.meth (Heap.get?_push_size _ rfl) hq (q'.keeps up), g.trans ?_⟩
 exact ⟨.of, up⟩
theorem ex_augattr {oe e : Expr} {name : Str} {tp pos : Pos} {op : Operator} {rest : List Stmt} {C dx : Addr} {fs : Loc} {d₁ d₂ d : D} {ow' : Own} (ho : Ev G n env ρ ow oe (.inst C dx)) (he : Ev G n env ρ ow e d₂) (hi : IncIs op d₁ d₂ d)
  (hx : OSet dx (.ns fs) (.ns (putF name d fs)) ow ow') (hf : fs.lookup name = some d₁) (hp : plainCls G.K C = true) (hc : ownName G.K C name = true) (hd : handedD d₁ = true) (hl : fs.length ≤ 1000) (h : Ex G n env ρ ow' (rest :: bs) o) :
  Ex G n env ρ ow ((.AugAssign (.Attribute oe name tp) op e pos :: rest) :: bs) o := .mk fun X A s E R B F => by
 refine wpAny_execs_cons (wpAny_AugAssign_AttributeAny (wpAny_mono (ho.go X A s E R F) (fun ov s₁ q₁ => ?_) fun _ _ y => y))
 obtain ⟨q₁, g₁⟩ := q₁
 have F₁ := F.keeps g₁
 refine Rep.eInst q₁ fun ex fx => ?_
 refine el13 ((F₁.owns _ hx.mem).1) fun m₁ hn₁ _ h2₁ => ?_
 refine el12 (h2₁ name d₁ hf) fun v₁ hv₁ r₁ => ?_
 refine attr_own (G.X.keeps F₁.base) (PlainCls.of hp) ex hn₁.ns hv₁ hc (handed_of r₁ hd) ?_
 have g₁' : Grow s₁ { s₁ with toks := s₁.toks + 1 } := .toks _ _
 have F₁' := F₁.keeps g₁'
 refine wpAny_mono (he.go X A _ E R F₁') (fun v₂ s₂ q₂ => ?_) fun _ _ y => y
 have F₂ := F₁'.keeps q₂.2
 refine wpAny_mono (hi.go _ _ X A s₂ E v₁ v₂ R.units F₂.live (r₁.keeps (g₁'.trans q₂.2).heap) q₂.1) (fun v s₃ q₃ => ?_) fun _ _ y => y
 have F₃ := F₂.keeps q₃.2
 have gg := ((g₁.trans g₁').trans q₂.2).trans q₃.2
 have ex₃ := ((g₁'.trans q₂.2).trans q₃.2).heap _ _ ex
 refine el13 ((F₃.owns _ hx.mem).1) fun m hn h1 h2 => ?_
 refine set_attr (G.X.keeps F₃.base) (PlainCls.of hp) ex₃ hn hl hc fun h' k' hk' hn' hs' tk => ?_
 have hdX := (F₃.owns _ hx.mem).2
 have hsame : Same X s₃.heap h' := .of_but hs' (.inl hdX)
 have hlen : k' ≤ (putF name d fs).length := by
  rw [putF_len, hf]
  refine el12 (h2 name d₁ hf) fun v' hv' _ => ?_
  rcases hk' with rfl | ⟨rfl, hno⟩
  ·simp
  ·rw [hno] at hv'; injection hv'
 have F₄ : Fits G env X ρ ow' { s₃ with heap := h', toks := tk } := F₃.setOwn (tk := tk) hx hs' ⟨_, let ⟨o, es, ep, a, b, c, d, e⟩ := hn'; ⟨o, es, ep, a, b, c, d, Nat.le_trans e hlen⟩, fun y hy => ?_, fun y d' hy => ?_⟩
 ·exact h.from R B F₄ (gg.turn.trans (.but (t := tk) hs' (.inr (.inr (List.mem_map.mpr ⟨_, hx.mem, rfl⟩))))) fun b q => .inl (mut_same hx.keys q)
 ·rw [putF_lookup] at hy
  by_cases q : y = name
  ·rw [if_pos q] at hy; injection hy
  ·rw [if_neg q] at hy
   show (if y = name then _ else _) = _
   rw [if_neg q]; exact h1 y hy
 ·rw [putF_lookup] at hy
  by_cases q : y = name
  ·rw [if_pos q] at hy
   (injection hy with y0; subst y0)
   exact ⟨v, by simp [q], q₃.1.mono hsame⟩
  ·rw [if_neg q] at hy
   refine el12 (h2 y d' hy) fun v' hv' r' => ?_
   exact ⟨v', by simp [q, hv'], r'.mono hsame⟩
theorem ex_def {name : Str} {params : Arguments} {body : List Stmt} {scope : Scope} {pos : Pos} {rest : List Stmt} {f : Nat → Nat → Option Str} {c P : Addr} {qual : Str} (hk : storable env name = true) (hd0 : params.defaults = []) (hk0 : params.kw_defaults = []) (ha : annTrees params none env = [])
  (hc : env.code = .ref c) (hC : codeHdIn G.K c P = true) (hm : (P, OO.pit f) ∈ ow) (hq : f pos.line pos.col = some qual) (hqn : qualnameIn env name name = qual) (hcl : closOk env.cells scope.names = true)
  (h : Ex G n env ((name, .fn (FnTold qual params (.stmts body) scope (closN env.cells scope.names [])) qual) :: ρ) ow (rest :: bs) o) :
  Ex G n env ρ ow ((.FunctionDef name params body [] none [] scope none name pos :: rest) :: bs) o := .mk fun X A s E R B F => by
 subst hqn
 refine wpAny_execs_cons (nestDef_K hd0 hk0 ha (mk_fn F hc hC hm (fun q e => by rw [hq] at e; exact (Option.some.inj e).symm) (closureFor_is hcl) fun v s₁ F₁ t₁ ⟨fa, fo, e1, e2, e3, e4, e5, e6⟩ => ?_))
 exact store_any hk F₁ (e6 hq) fun h' tk F' t' _ => h.from' R B F' (t₁.trans t')
theorem tst_own {oe : Expr} {a : Addr} {ds : List D} (hp : plainTest oe = true) (ho : Ev G n env ρ ow oe (own a)) (hm : (a, OO.list ds) ∈ ow) (hl : ds.length < 2 ^ 62) : Tst G n env ρ ow oe (!ds.isEmpty) := .mk fun X A s E R F => by
 refine isTrue_plain (wpAny_mono (ho.go X A s E R F) (fun v s' q => ?_) fun _ _ x => x) ?_
 ·obtain ⟨q, g⟩ := q
  refine Rep.eRaw q ?_
  refine el12 (((F.keeps g).owns _ hm).1) fun vs hL ra => ?_
  have hlen := ra.length
  refine wpAny_truthy_list hL.isList (by rw [List.size_toArray]; omega) ⟨?_, g.trans (.toks _ _)⟩
  cases ds with
  | nil => have e := len0 hlen; subst e; rfl
  | cons d ds => refine el21 (List.exists_cons_of_length_eq_add_one hlen) fun v r y0 => ?_; subst y0; rfl
 ·exact plain_eq hp
end
end
section
open Builtin Builtin.List
theorem str_sized : Slot "str" "__len__" "str.__len__" := .of (owner := "str") (n := "__len__") (by rw [typeLookup_type, builtinLookup_eq_fast]; kernel_rfl) (by decide +kernel) (by decide +kernel) (by decide +kernel)
  (by first | exact .inl (by decide +kernel) | exact .inr (by decide +kernel)) (by rw [isSubtype_type]; kernel_rfl)
theorem sub_str_str : isSubtype (.type "str") (.type "str") = pure true := by rw [isSubtype_type]; kernel_rfl
theorem len_split : splitId "str.__len__" = some ("str", "__len__") := by decide +kernel
section
variable {prog : Program} {w : World} {A : Around} {E : Value → Shared → Prop} {s : Shared}
theorem hint_str {l : List Nat} {t : Tok} {Q : Bool → Shared → Prop} (h : Q false s) : wpAny (model prog w) A (listLengthHint (.str (tx l) t)) Q E s := by
 unfold listLengthHint
 refine wpAny_bind (wpAny_specialOf (typeIs_str s _ _) str_sized.lookup ?_)
 dsimp only
 rw [len_split]
 dsimp only
 refine wpAny_bind (wpAny_isInstance (b := true) (typeIs_str s _ _) sub_str_str ?_)
 rw [if_neg (by decide), if_pos (by decide +kernel)]
 refine wpAny_bind (wpAny_typeOf (typeIs_str s _ _) ?_)
 exact wpAny_pure h
theorem extend_turns {I a : Addr} {fp wr : List Addr} {n : Nat} {P : Nat → Value → Prop} {St : Nat → Heap → Prop} (W : Walks prog w A.in1 I fp wr n P St) (ha : a ∉ fp) : ∀ (k i : Nat) (s : Shared) (acc : List Value) (c : Nat) (R : Result → Shared → Prop), n - i = k → i ≤ n → St i s.heap →
  s.heap.get? a = some { cls := .type "list", data := .seq acc.toArray c } → acc.length + k ≤ sizeLine →
  (∀ h' tk vs c', (∀ b o, b ∉ a :: wr → s.heap.get? b = some o → h'.get? b = some o) → h'.get? a = some { cls := .type "list", data := .seq (acc ++ vs).toArray c' } → vs.length = k → (∀ j v, vs[j]? = some v → P (i + j) v) → R (.ok (.ret .none)) { s with heap := h', toks := tk }) →
  codeAny (model prog w) A (.builtin "list.extend.loop" ⟨[.ref a, .ref I, .none], []⟩) R s
 | 0, i, s, acc, c, R, hk, hi, st, hl, hsz, hR => by
  have hin : i = n := by omega
  subst hin
  refine codeAny_builtin PySem.F.entry_extend_loop ?_
  rw [Around.under_plainId PySem.F.plain_extend_loop _]
  show wpAny _ A.in1 (pyNext (.ref I) >>= _) _ _ s
  refine wpAny_bind (W.done s _ _ st fun h' tk hm => ?_)
  have haw : a ∉ wr := fun q => ha (W.sub _ q)
  exact wpAny_pure (hR h' tk [] c (fun b o hb e => hm b o (fun q => hb (List.mem_cons_of_mem _ q)) e) (by rw [List.append_nil]; exact hm a _ haw hl) rfl (fun j v e => by simp at e))
 | k + 1, i, s, acc, c, R, hk, hi, st, hl, hsz, hR => by
  have hlt : i < n := by omega
  have haw : a ∉ wr := fun q => ha (W.sub _ q)
  refine codeAny_builtin PySem.F.entry_extend_loop ?_
  rw [Around.under_plainId PySem.F.plain_extend_loop _]
  show wpAny _ A.in1 (pyNext (.ref I) >>= _) _ _ s
  refine wpAny_bind (W.item i s _ _ hlt st fun v h' tk hP st' hm => ?_)
  have hl' := hm a _ haw hl
  show wpAny _ A.in1 (updateSeq a (·.push v) >>= _) _ _ _
  refine wpAny_bind ?_
  have hup : (h'.update a (Obj.mapSeq (·.push v))).get? a = some { cls := .type "list", data := .seq (acc ++ [v]).toArray (c + 1) } := by
   rw [Heap.get?_update_self _ hl' (by rw [Obj.mapSeq_push_plain]; rfl), Obj.mapSeq_push_plain]; simp
  refine wpAny_updateSeq (s := { s with heap := h', toks := tk }) hl' rfl (wpAny_pure ⟨plainId_quiet PySem.F.plain_extend_loop _, extend_turns W ha k (i + 1) _ (acc ++ [v]) (c + 1) R (by omega) hlt (W.frame _ h' _ st' fun b hb o e => ?_) hup (by rw [List.length_append, List.length_singleton]; omega) fun h'' tk' vs c' hm' hl'' hlen hP' => ?_⟩)
   (by rw [List.size_toArray]; omega) (by show (acc.toArray.push v).size ≤ sizeLine + 1; rw [Array.size_push, List.size_toArray]; omega)
  ·exact (Heap.get?_update_other _ _ (fun h : a = b => ha (by rw [h]; exact hb))).trans e
  ·refine hR h'' tk' (v :: vs) c' (fun b o hb e => hm' b o hb ?_) (by simpa using hl'') (by simp [hlen]) fun j x e => ?_
   ·exact (Heap.get?_update_other _ _ (fun h : a = b => hb (by rw [h]; exact List.mem_cons_self))).trans (hm b o (fun q => hb (List.mem_cons_of_mem _ q)) e)
   ·cases j with
    | zero => simp at e; subst e; exact hP
    | succ j => have := hP' j x (by simpa using e); rw [show i + 1 + j = i + (j + 1) by omega] at this; exact this
theorem extend_str {a : Addr} {acc : List Value} {c : Nat} {l : List Nat} {t : Tok} {Q : Value → Shared → Prop} (hh : A.handled = none) (hl : s.heap.get? a = some { cls := .type "list", data := .seq acc.toArray c }) (hsz : acc.length + l.length ≤ sizeLine)
  (h : ∀ h' tk vs c', (∀ b o, b ≠ a → s.heap.get? b = some o → h'.get? b = some o) → h'.get? a = some { cls := .type "list", data := .seq (acc ++ vs).toArray c' } → (∀ X, RepAll X h' vs (signs l)) → Q .none { s with heap := h', toks := tk }) :
  wpAny (model prog w) A (call (.builtin "list.extend") [.ref a, .str (tx l) t]) Q E s := by
 have hT : s.TypeIs (.ref a) "list" := ⟨_, hl, rfl⟩
 refine wpAny_call (codeAny_call_builtin PySem.F.slot_list_extend.plain PySem.F.entry_list_extend (PySem.F.slot_list_extend.check _ _ _ _ _ _ _ _ hT (PySem.F.args_list_extend_2 _ _) ?_))
 show wpAny _ A.in1 (listExtendWith (.ref a) (.str (tx l) t) .none) _ _ s
 unfold listExtendWith
 refine wpAny_bind (wpAny_typeOf (typeIs_str s _ _) ?_)
 have h1 : listSameRef (.ref a) (.str (tx l) t) = false := rfl
 rw [if_neg (by rw [h1]; decide)]
 have hnew : s.heap.get? s.heap.objs.size = none := none_at (Nat.le_refl _)
 have hne : a ≠ s.heap.objs.size := Nat.ne_of_lt (Heap.lt_size hl)
 have fin : ∀ (T : String), Walks prog w A.in1 s.heap.objs.size [s.heap.objs.size] [s.heap.objs.size] (tx l).cps.size (SignAt (tx l)) (fun i h => h.IsStrIter s.heap.objs.size T (tx l) t i) →
   codeAny (model prog w) A (.builtin "list.extend.loop" ⟨[.ref a, .ref s.heap.objs.size, .none], []⟩) (fun r s' => match r with | .ok (.ret v) => Q v s' | .ok _ => False | .error e => E e s')
    { s with heap := s.heap.push { cls := .type T, data := .fields #[.str (tx l) t, .int 0 0] } } := fun T W => by
  refine extend_turns W (by simpa using hne) (tx l).cps.size 0 _ acc c _ (Nat.sub_zero _) (Nat.zero_le _) ⟨_, Heap.get?_push_size _ rfl, rfl, rfl⟩ (Heap.get?_push_of_some _ hl) (by simpa using hsz) fun h' tk vs c' hm hl' hlen hP => ?_
  refine h h' tk vs c' (fun b o hb e => hm b o (fun q => ?_) (Heap.get?_push_of_some _ e)) hl' fun X => ?_
  ·refine Or.elim (List.mem_cons.mp q) (fun q => ?_) (fun q => ?_)
   ·exact hb q
   ·rw [List.mem_singleton.mp q, hnew] at e; injection e
  ·have key : ∀ (m : Nat) (vs : List Value) (k : Nat) (ds : List D), vs.length = m → ds.length = m → (∀ j v, vs[j]? = some v → SignAt (tx l) (k + j) v) → (∀ j d, ds[j]? = some d → ∃ c, l[k + j]? = some c ∧ d = .str [c]) → RepAll X h' vs ds := by
    intro m
    induction m with
    | zero => intro vs k ds h1 h2 _ _; rw [List.length_eq_zero_iff.mp h1, List.length_eq_zero_iff.mp h2]; exact .nil
    | succ m ih =>
     intro vs k ds h1 h2 h3 h4
     cases vs with
     | nil => simp at h1
     | cons v vs =>
      cases ds with
      | nil => simp at h2
      | cons d ds =>
       refine el22 (h3 0 v rfl) fun c u hc y0 => ?_; subst y0
       refine el12 (h4 0 d rfl) fun c' hc' y0 => ?_; subst y0
       have : l[k + 0]? = some c := by simpa using hc
       rw [this] at hc'; (injection hc' with y0; subst y0)
       refine .cons (.str [c] u) (ih vs (k + 1) ds (by simpa using h1) (by simpa using h2) (fun j v e => ?_) fun j d e => ?_)
       ·have := h3 (j + 1) v (by simpa using e); rwa [show k + (j + 1) = k + 1 + j by omega] at this
       ·have := h4 (j + 1) d (by simpa using e); rwa [show k + (j + 1) = k + 1 + j by omega] at this
   refine key _ vs 0 (signs l) hlen (by simp [signs]) (fun j v e => hP j v e) fun j d e => ?_
   simp only [signs, List.getElem?_map] at e
   cases hc : l[j]? with
   | none => rw [hc] at e; injection e
   | some c => rw [hc] at e; (injection e with y0; subst y0); exact ⟨c, by simpa using hc, rfl⟩
 cases hal : (tx l).cps.all (· < 128)
 ·refine wpAny_bind (wpAny_pyIter_wide hal ?_)
  refine wpAny_bind (wpAny_holding (hint_str ?_))
  rw [if_neg (by decide +kernel)]
  exact wpAny_pure ⟨plainId_quiet PySem.F.plain_extend_loop _, fin "str_iterator" (Walks.strWide (A := A.in1) hh _ _ _)⟩
 ·refine wpAny_bind (wpAny_pyIter_ascii hal ?_)
  refine wpAny_bind (wpAny_holding (hint_str ?_))
  rw [if_neg (by decide +kernel)]
  exact wpAny_pure ⟨plainId_quiet PySem.F.plain_extend_loop _, fin "str_ascii_iterator" (Walks.strAscii (A := A.in1) hh _ _ _)⟩
end
section
variable {G : Gd} {n : Nat} {env : Env} {ρ : Loc} {ow : Own} {bs : List (List Stmt)} {o : Out}
theorem ex_extend_str {oe e : Expr} {apos cpos pos : Pos} {rest : List Stmt} {a : Addr} {ds : List D} {l : List Nat} {ow' : Own} {pl : Sem Bool} (ho : Ev G n env ρ ow oe (own a)) (hx : OSet a (.list ds) (.list (ds ++ signs l)) ow ow') (he : Ev G n env ρ ow e (.str l)) (hs : noStar [e] = true) (hsz : ds.length + l.length ≤ 1000000)
  (hq : MethEq env oe "extend" apos cpos [e] pl) (hi : interactive env = false) (hsw : swapsWith (.Call (.Attribute oe "extend" apos) [e] [] cpos) none pos.line env = pure false)
  (h : Ex G n env ρ ow' (rest :: bs) o) : Ex G n env ρ ow ((.Expr (.Call (.Attribute oe "extend" apos) [e] [] cpos) pos :: rest) :: bs) o := .mk <| fun X A s E R B F => by
 refine wpAny_execs_cons (wpAny_Expr_any (MethodCall_ (wpAny_mono (ho.go X A s E R F) (fun v s₁ q => ?_) fun _ _ x => x) hq) hi hsw)
 obtain ⟨q, g⟩ := q
 refine Rep.eRaw q ?_
 have F₁ := F.keeps g
 refine el12 ((F₁.owns _ hx.mem).1) fun vs hL ra => ?_
 refine getMethod_builtin hL.isList.typeIs PySem.F.plainAttrs_list PySem.F.slot_list_extend PySem.F.type_list_extend (fun a e => by (injection e with y0; subst y0); exact hL.noDict) ?_
 refine callWith_method1 (wpAny_mono ((evAll_cons (noStar_head hs) he evAll_nil).go cpos X A s₁ E R F₁) (fun ws s₂ q₂ => ?_) fun _ _ x => x) (starEach_cons hs) (backTo_any (noStar_tail hs))
 obtain ⟨q₂, g₂⟩ := q₂
 refine el12 q₂.one fun _ y0 => ?_; subst y0; intro r₂
 refine Rep.eStr r₂ fun t => ?_
 have F₂ := F₁.keeps g₂
 refine el12 ((F₂.owns _ hx.mem).1) fun vs y0 => ?_; refine el11 y0 fun k hL => ?_; intro ra
 refine extend_str R.hd hL (by rw [ra.length]; exact small hsz) fun h' tk ws c' hk hl' hr => ?_
 have haX := (F₂.owns _ hx.mem).2
 have hsame : Same X s₂.heap h' := fun b ob hb _ e => hk b ob (fun q => hb (q ▸ haX)) e
 have gb : GrowBut a s₂ { s₂ with heap := h', toks := tk } := ⟨.of, hk, fun _ _ => ⟨_, hl'⟩⟩
 have hown : ∀ p ∈ ow', OOIs X h' p.1 p.2 := fun p hp => by
  rcases hx.rest F₂.nd hp with rfl | ⟨h1, h2⟩
  ·exact ⟨_, ⟨c', hl'⟩, (ra.mono hsame).append (hr X)⟩
  ·exact (F₂.owns p h1).1.at (fun o e => hk _ o h2 e) hsame
 have F₃ : Fits G env X ρ ow' { s₂ with heap := h', toks := tk } := F₂.putOwn hx.keys (fun b ob hb e => hk b ob (fun q => hb (q ▸ List.mem_map.mpr ⟨_, hx.mem, rfl⟩)) e) hown
 refine h.from R B F₃ ((g.trans g₂).turn.trans ⟨.of, fun b ob p e => hk b ob (fun q => p (.inr (.inr (List.mem_map.mpr ⟨_, hx.mem, q.symm⟩)))) e⟩) fun b q => .inl (mut_same hx.keys q)
end
end
section
open Builtin
theorem ci_next : Slot "callable_iterator" "__next__" "callable_iterator.__next__" := .of (owner := "callable_iterator") (n := "__next__") (by rw [typeLookup_type, builtinLookup_eq_fast]; kernel_rfl) (by decide +kernel) (by decide +kernel) (by decide +kernel)
  (by first | exact .inl (by decide +kernel) | exact .inr (by decide +kernel)) (by rw [isSubtype_type]; kernel_rfl)
theorem ci_iter : Slot "callable_iterator" "__iter__" "callable_iterator.__iter__" := .of (owner := "callable_iterator") (n := "__iter__") (by rw [typeLookup_type, builtinLookup_eq_fast]; kernel_rfl) (by decide +kernel) (by decide +kernel) (by decide +kernel)
  (by first | exact .inl (by decide +kernel) | exact .inr (by decide +kernel)) (by rw [isSubtype_type]; kernel_rfl)
theorem entry_ci_next : entryFor table "callable_iterator.__next__" = some Builtin.«callable_iterator.__next__» := entryFor_of_tree (by kernel_rfl)
theorem entry_ci_iter : entryFor table "callable_iterator.__iter__" = some Builtin.«dict_keyiterator.__iter__» := entryFor_alias (id' := "dict_keyiterator.__iter__") (by kernel_rfl) rfl (by decide +kernel) (by kernel_rfl)
theorem args_ci_next (a : Value) : argsOk "callable_iterator.__next__" ⟨[a], []⟩ := by unfold argsOk; kernel_rfl
theorem args_ci_iter (a : Value) : argsOk "callable_iterator.__iter__" ⟨[a], []⟩ := by unfold argsOk; kernel_rfl
theorem entry_iter : entryFor table "iter" = some Builtin.«iter» := entryFor_of_tree (by kernel_rfl)
theorem kind_iter : builtinKind "iter" = none := by decide +kernel
theorem plain_iter : plainId "iter" = true := by decide +kernel
theorem args_iter2 (a b : Value) : argsOk "iter" ⟨[a, b], []⟩ := by unfold argsOk; kernel_rfl
theorem meth_has_call : typeLookup (.type "method") "__call__" = pure (some (.builtin "method.__call__")) := by rw [typeLookup_type, builtinLookup_eq_fast]; kernel_rfl
theorem borrowed_eq (f : Value) (pos : List Value) : callBorrowed f pos = (call f pos).keep [borrowed] := by
 unfold callBorrowed call runValue run
 show Sem.call _ _ _ _ _ = Sem.call _ _ _ _ _
 congr 1
 funext r
 cases r with
 | error e => rfl
 | ok fl => cases fl <;> rfl
noncomputable abbrev ciObj (vs : Array Value) : Obj := { cls := .type "callable_iterator", data := .fields vs }
section
variable {prog : Program} {w : World} {A : Around} {E : Value → Shared → Prop} {s : Shared} {q mo f x : Addr}
theorem borrows {A : Around} {E : Value → Shared → Prop} {s : Shared} {fo : Obj} {fd : FuncData} {Q : Bool → Shared → Prop} (hmo : s.heap.get? mo = some (methodObj (.ref f) (.ref x))) (hf : s.heap.get? f = some fo) (hfd : fo.data = .func fd) (h : Q true s) : wpAny (model prog w) A (borrowsExactly (.ref mo)) Q E s := by
 unfold borrowsExactly
 refine wpAny_bind (wpAny_load hmo ?_)
 show wpAny _ _ ((load f >>= _) : Sem Bool) _ _ _
 refine wpAny_bind (wpAny_load hf ?_)
 rw [hfd]
 exact wpAny_pure h
theorem iter_self {vs : Array Value} {Q : Value → Shared → Prop} (hq : s.heap.get? q = some (ciObj vs)) (h : Q (.ref q) s) : wpAny (model prog w) A (pyIter (.ref q)) Q E s := by
 have hT : s.TypeIs (.ref q) "callable_iterator" := ⟨_, hq, rfl⟩
 refine wpAny_pyIter_slot hT ci_iter (wpAny_call_entry ci_iter hT entry_ci_iter ?_ (args_ci_iter _))
 show wpAny _ _ (ret (.ref q)) _ _ s
 exact wpAny_pure ⟨_, rfl, "callable_iterator", _, hT, ci_next.lookup, h⟩
theorem raise_stop {Q : Option Value → Shared → Prop} (hh : A.handled = none) (h : ∀ h' , (∀ b o, s.heap.get? b = some o → h'.get? b = some o) → Q none { s with heap := h' }) {α : Type} {Q' : α → Shared → Prop} :
  wpAny (model prog w) A.in1 (newExc (.type "StopIteration") [] >>= fun e => (raiseNew e : Sem α)) Q' (fun e s' => wpAny (model prog w) A (do if ← isInstance e (.type "StopIteration") then pure none else throw e) Q E s') s := by
 refine wpAny_bind ?_
 simp only [newExc, newTuple]
 refine wpAny_bind (wpAny_newObj_type ?_ (by size_fits))
 refine wpAny_bind (m := firstArgMember _ _) (wpAny_of_eq (a := Value.none) (by first | rfl | (simp only [firstArgMember]; rfl)) ?_)
 refine wpAny_newObj_type ?_ (by size_fits)
 simp only [raiseNew]
 refine wpAny_bind (wpAny_handled ?_)
 rw [show A.in1.handled = none from hh]
 refine wpAny_bind (wpAny_pure (wpAny_throw ?_))
 refine wpAny_bind (wpAny_isInstance (T := "StopIteration") (b := true) ⟨_, Heap.get?_push_size _ rfl, rfl⟩ isSubtype_stop ?_)
 exact wpAny_pure (h _ fun b o e => Heap.get?_push_of_some _ (Heap.get?_push_of_some _ e))
theorem next_ended {Q : Option Value → Shared → Prop} (hh : A.handled = none) (hq : s.heap.get? q = some (ciObj #[.none, .none, .bool true])) (h : ∀ h', (∀ b o, s.heap.get? b = some o → h'.get? b = some o) → Q none { s with heap := h' }) : wpAny (model prog w) A (pyNext (.ref q)) Q E s := by
 have hT : s.TypeIs (.ref q) "callable_iterator" := ⟨_, hq, rfl⟩
 unfold pyNext
 refine wpAny_bind (wpAny_attempt (wpAny_callSpecial?_slot (name := Str.ofString "__next__") hT ci_next (wpAny_call_entry ci_next hT entry_ci_next ?_ (args_ci_next _))))
 show wpAny _ _ (field (.ref q) 2 >>= _) _ _ s
 refine wpAny_bind (wpAny_field hq rfl (x := .bool true) rfl ?_)
 rw [if_pos (by decide)]
 refine wpAny_bind (wpAny_rule (wpAny_bind (raise_stop hh h)))
theorem next_turn {sent : List Nat} {t : Tok} {fo : Obj} {fd : FuncData} {Q : Option Value → Shared → Prop} (hh : A.handled = none) (hq : s.heap.get? q = some (ciObj #[.ref mo, .str (tx sent) t, .bool false])) (hmo : s.heap.get? mo = some (methodObj (.ref f) (.ref x))) (hf : s.heap.get? f = some fo) (hfd : fo.data = .func fd)
  (hc : wpAny (model prog w) A.in1 (call (.ref mo) []) (fun v s₁ => s₁.heap.get? q = some (ciObj #[.ref mo, .str (tx sent) t, .bool false]) ∧ s₁.heap.get? mo = some (methodObj (.ref f) (.ref x)) ∧ s₁.heap.get? f = some fo ∧ ∃ l t', v = .str (tx l) t' ∧ (l ≠ sent → Q (some v) s₁) ∧
   (l = sent → ∀ h', h'.get? q = some (ciObj #[.none, .none, .bool true]) → (∀ b o, b ≠ q → s₁.heap.get? b = some o → h'.get? b = some o) → Q none { s₁ with heap := h' })) (fun _ _ => False) s) : wpAny (model prog w) A (pyNext (.ref q)) Q E s := by
 have hT : s.TypeIs (.ref q) "callable_iterator" := ⟨_, hq, rfl⟩
 unfold pyNext
 refine wpAny_bind (wpAny_attempt (wpAny_callSpecial?_slot (name := Str.ofString "__next__") hT ci_next (wpAny_call_entry ci_next hT entry_ci_next ?_ (args_ci_next _))))
 show wpAny _ _ (field (.ref q) 2 >>= _) _ _ s
 refine wpAny_bind (wpAny_field hq rfl (x := .bool false) rfl ?_)
 rw [if_neg (by decide)]
 refine wpAny_bind (wpAny_field hq rfl (x := .ref mo) rfl ?_)
 refine wpAny_bind (wpAny_attempt ?_)
 unfold callOutOfASlot
 refine wpAny_bind (borrows hmo hf hfd ?_)
 rw [if_pos rfl]
 rw [borrowed_eq]
 refine Calls.wpAny_keep (wpAny_mono hc (fun v s₁ h₁ => ?_) fun _ _ z => z.elim)
 obtain ⟨hq₁, hmo₁, hf₁, l, t', rfl, hyes, hno⟩ := h₁
 dsimp only
 refine wpAny_bind (wpAny_field hq₁ rfl (x := .bool false) rfl ?_)
 rw [if_neg (by decide)]
 refine wpAny_bind (wpAny_field hq₁ rfl (x := .str (tx sent) t) rfl ?_)
 refine wpAny_bind (wpAny_holding (wpAny_eqBool_str ?_))
 by_cases hl : l = sent
 ·subst hl
  rw [if_neg (by simp)]
  refine wpAny_bind (wpAny_rule ?_)
  refine wpAny_bind ?_
  wp_delta
  refine wpAny_bind (wpAny_field hq₁ rfl (x := .ref mo) rfl ?_)
  refine wpAny_bind ?_
  unfold slotLetsGo
  dsimp only
  refine wpAny_bind (borrows hmo₁ hf₁ hfd ?_)
  rw [if_pos rfl]
  refine wpAny_pure ?_
  refine wpAny_bind (wpAny_setField_rec hq₁ (by simp) fun h₂ e₂ k₂ => ?_)
  refine wpAny_bind (wpAny_setField_rec (s := { s₁ with heap := h₂ }) e₂ (by simp) fun h₃ e₃ k₃ => ?_)
  refine wpAny_setField_rec (s := { s₁ with heap := h₃ }) e₃ (by simp) fun h₄ e₄ k₄ => ?_
  refine raise_stop (s := { s₁ with heap := h₄ }) hh fun h' k => ?_
  exact hno rfl h' (k _ _ e₄) fun b o hb e => k b o ((k₄.2 b hb).trans ((k₃.2 b hb).trans ((k₂.2 b hb).trans e)))
 ·have : (!decide (tx sent = tx l)) = true := by
   simp only [Bool.not_eq_true', decide_eq_false_iff_not]
   intro z; injection z with z; exact hl (Array.toList_inj.mpr z).symm
  rw [if_pos this]
  exact wpAny_bind (wpAny_pure (wpAny_pure ⟨_, rfl, wpAny_pure (hyes hl)⟩))
end
end
section
open Builtin
theorem OSet.app {a : Addr} {old new : OO} {r r' : Own} (x : OSet a old new r r') : ∀ c : Own, OSet a old new (c ++ r) (c ++ r')
 | [] => x
 | p :: c => .tail p (x.app c)
structure NextC (G : Gd) (n : Nat) (env : Env) (ρ : Loc) (ow : Own) (q : Addr) (Yes : List Nat → Own → Prop) (No : Own → Prop) : Prop where
 go : ∀ (X : List Addr) (A : Around) (s : Shared) (E : Value → Shared → Prop) (Q : Option Value → Shared → Prop), Room n A → Fits G env X ρ ow s →
  (∀ v l ow' X' s', Yes l ow' → NewX X X' s.heap → Rep X' s'.heap v (.str l) → Fits G env X' ρ ow' s' → Turn env ow s s' → MutOk env ow ow' s.heap → Q (some v) s') →
  (∀ ow' X' s', No ow' → NewX X X' s.heap → Fits G env X' ρ ow' s' → Turn env ow s s' → MutOk env ow ow' s.heap → Q none s') →
  wpAny (model G.prog G.w) A (pyNext (.ref q)) Q E s
section
variable {G : Gd} {n : Nat} {env : Env} {ρ : Loc} {ow : Own} {bs : List (List Stmt)} {o : Out}
set_option tactic.hygienic true in
theorem next_ci {q f C dx : Addr} {sent : List Nat} {c r : Own} {R : D → Own → Prop} (h : FnG G n (.ref f) [.inst C dx] c R) (hR : ∀ d c', R d c' → ∃ l, d = .str l) (hfn : fnIn G.K f = true) :
  NextC G (n + 1) env ρ (c ++ ((q, .citer (.meth f C dx) sent false) :: r)) q (fun l ow' => l ≠ sent ∧ ∃ c', R (.str l) c' ∧ ow' = c' ++ ((q, .citer (.meth f C dx) sent false) :: r)) (fun ow' => ∃ c', R (.str sent) c' ∧ ow' = c' ++ ((q, .citer (.meth f C dx) sent true) :: r)) := .mk fun X A s E Q Rm F hy hn => by
 have hm : (q, OO.citer (.meth f C dx) sent false) ∈ c ++ ((q, .citer (.meth f C dx) sent false) :: r) := List.mem_append_right _ (List.mem_cons_self ..)
 refine el22 ((F.owns _ hm).1) fun v0 t e0 r0 => ?_
 have r0 := r0 rfl
 have r0' := r0
 revert r0' e0
 refine Rep.eMeth r0 @fun mo x e1 e2 e3 e0 r0' => ?_
 refine el41 ((by
  unfold fnIn at hfn
  split at hfn
  ·rename_i e; exact ⟨_, _, _, _, e⟩
  ·cases hfn) : ∃ oc od fd sl, G.K.lookup f = some ⟨oc, od, .func fd, sl⟩) fun oc od fdl sl hfl => ?_
 have hf := G.X.keeps F.base _ _ hfl
 refine next_turn Rm.hd e0 e1 hf rfl ?_
 refine wpAny_mono (wpAny_call (method_call e1 (h.code X A.in1 s (fun _ _ => False) [_] Rm.in1 F.base F.live (.cons e3 .nil) F.own.left))) (fun v s₁ z => ?_) fun _ _ z => z
 obtain ⟨d, c', X', hr, rep, L⟩ := z
 refine el11 (hR d c' hr) fun l y0 => ?_; subst y0
 refine el03 (F.leftover L) fun F₁ t₁ hmut => ?_
 have hnd := F.nd
 rw [List.map_append, List.nodup_append] at hnd
 have hqc : q ∉ keysOf c := fun z => hnd.2.2 q z q (List.mem_cons_self ..) rfl
 have hmoX : ∀ b ob, s.heap.get? b = some ob → look ob → b ∉ X → s₁.heap.get? b = some ob := fun b ob e l hb => L.keep.heap b ob (fun z => by
  refine el12 (List.mem_map.mp z) fun p hp y0 => ?_; subst y0
  exact hb (F.owns p (List.mem_append_left _ hp)).2) e
 refine Rep.eStr rep fun t' => ?_
 refine ⟨L.keep.heap _ _ hqc e0, hmoX _ _ e1 (.inr (.inl ⟨.inr (.inr (.inr rfl)), _, rfl⟩)) e2, G.X.keeps F₁.base _ _ hfl, l, t', rfl, fun hl => ?_, fun hl h' e' k' => ?_⟩
 ·exact hy _ l _ X' s₁ ⟨hl, c', hr, rfl⟩ L.newX (.str l t') F₁ t₁ hmut
 ·subst hl
  have hx : OSet q (.citer (.meth f C dx) l false) (.citer (.meth f C dx) l true) (c' ++ ((q, .citer (.meth f C dx) l false) :: r)) (c' ++ ((q, .citer (.meth f C dx) l true) :: r)) := (OSet.head r).app c'
  have hqX : q ∈ X' := (F₁.owns _ hx.mem).2
  have hsame : Same X' s₁.heap h' := fun b ob hb _ e => k' b ob (fun z => hb (z ▸ hqX)) e
  have F₂ : Fits G env X' ρ (c' ++ ((q, .citer (.meth f C dx) l true) :: r)) { s₁ with heap := h' } := F₁.putOwn (tk := s₁.toks) hx.keys (fun b ob hb e => k' b ob (fun z => hb (by rw [z]; exact List.mem_map.mpr ⟨_, hx.mem, rfl⟩)) e) fun p hp => by
   rcases hx.rest F₁.nd hp with rfl | ⟨h1, h2⟩
   ·exact ⟨.none, 0, by simpa using e', fun z => by injection z⟩
   ·exact (F₁.owns p h1).1.at (fun o e => k' _ o h2 e) hsame
  refine hn _ X' _ ⟨c', hr, rfl⟩ L.newX F₂ (t₁.trans ?_) fun b z => hmut b (mut_same hx.keys z)
  refine ⟨.of, fun b ob p e => k' b ob (fun z => p (.inr (.inr ?_))) e⟩
  rw [z]; exact List.mem_map.mpr ⟨_, hm, rfl⟩
theorem next_over {q : Addr} {df : D} {sent : List Nat} {ow : Own} (hm : (q, OO.citer df sent true) ∈ ow) : NextC G n env ρ ow q (fun _ _ => False) (fun ow' => ow' = ow) := .mk fun X A s E Q Rm F hy hn => by
 refine el22 ((F.owns _ hm).1) fun v0 t e0 r0 => ?_
 refine next_ended Rm.hd e0 fun h' k => ?_
 have g : Grow s { s with heap := h' } := ⟨.of, k⟩
 exact hn ow X _ rfl (.refl ..) (F.keeps g) g.turn fun b z => .inl z
theorem ex_citer {x it : Str} {e₁ e₂ : Expr} {p1 p2 p3 p4 : Pos} {rest : List Stmt} {f C dx : Addr} {sent : List Nat} (hk : storable env x = true) (hsw : swapsWith (.Call (.Name it p2) [e₁, e₂] [] p3) (some (.Name x p1)) p4.line env = pure false) (hs : noStar [e₁, e₂] = true)
  (hf : Ev G n env ρ ow (.Name it p2) (.raw (.builtin "iter"))) (h₁ : Ev G n env ρ ow e₁ (.meth f C dx)) (h₂ : Ev G n env ρ ow e₂ (.str sent))
  (h : ∀ q, q ∉ o.base → Ex G n env ((x, own q) :: ρ) ((q, .citer (.meth f C dx) sent false) :: ow) (rest :: bs) o) :
  Ex G n env ρ ow ((.Assign [.Name x p1] (.Call (.Name it p2) [e₁, e₂] [] p3) p4 :: rest) :: bs) o := .mk fun X A s E R B F => by
 refine wpAny_execs_cons (wpAny_Assign_Name (Call_ (wpAny_mono (hf.go X A s E R F) (fun v s₁ q => ?_) fun _ _ x => x) rfl) hsw)
 obtain ⟨q, g⟩ := q
 refine Rep.eRaw q ?_
 have F₁ := F.keeps g
 have ha : EvAll G n env ρ ow [e₁, e₂] [.meth f C dx, .str sent] := evAll_cons (noStar_head hs) h₁ (evAll_cons (noStar_head (noStar_tail hs)) h₂ evAll_nil)
 refine callWith_builtin1 (wpAny_mono (ha.go p3 X A s₁ E R F₁) (fun vs s₂ q₂ => ?_) fun _ _ x => x) (starEach_cons hs) (backTo_any (noStar_tail hs))
 obtain ⟨q₂, g₂⟩ := q₂
 refine el23 q₂.two fun mv sv y0 => ?_; subst y0; intro rm rs
 have F₂ := F₁.keeps g₂
 have rm' := rm
 revert rm'
 refine Rep.eMeth rm @fun mo xo e1 e2 e3 rm' => ?_
 refine Rep.eStr rs fun t => ?_
 refine call_function_tree kind_iter plain_iter entry_iter (args_iter2 _ _) ?_
 unfold Builtin.«iter»
 refine wpAny_bind (wpAny_of_eq (a := [Value.ref _, .str (tx sent) t]) (by rfl) ?_)
 dsimp only
 refine wpAny_bind (wpAny_specialOf (T := "method") ⟨_, e1, rfl⟩ meth_has_call ?_)
 rw [if_neg (by decide)]
 refine wpAny_bind (wpAny_rule (wpAny_bind ?_))
 refine wpAny_newObj_type ?_ (by size_fits)
 refine wpAny_pure ?_
 have hnone : s₂.heap.get? s₂.heap.objs.size = none := none_at (Nat.le_refl _)
 have up : ∀ b ob, s₂.heap.get? b = some ob → (s₂.heap.push (ciObj #[Value.ref mo, .str (tx sent) t, .bool false])).get? b = some ob := fun b ob e => Heap.get?_push_of_some _ e
 have F₃ := F₂.newOwn (a := s₂.heap.objs.size) (new := .citer (.meth f C dx) sent false) (h' := s₂.heap.push (ciObj #[Value.ref mo, .str (tx sent) t, .bool false])) (tk := s₂.toks) hnone up ⟨_, t, Heap.get?_push_size _ rfl, fun _ => (rm'.new hnone).keeps up⟩
 refine store_any hk F₃ (.raw _) fun h' tk F' t' _ => ?_
 refine (h _ fun z => F₂.live.new (B _ z)).from R (fun a q => List.mem_cons_of_mem _ (B a q)) F' (ow := ow) ?_ fun b z => ?_
 ·have g3 : Grow s { s₂ with heap := s₂.heap.push (ciObj #[Value.ref mo, .str (tx sent) t, .bool false]) } := (g.trans g₂).trans (.push _ _ s₂.toks)
  refine ⟨g3.same.trans ⟨t'.same.os, t'.same.bare⟩, fun b ob p e => t'.heap b ob (fun z => ?_) (g3.heap b ob e)⟩
  rcases z with z | z | z
  ·exact p (.inl z)
  ·exact p (.inr (.inl z))
  ·simp only [List.map_cons, List.mem_cons] at z
   refine Or.elim z (fun z => ?_) (fun z => ?_)
   ·rw [z] at e
    rw [(g.trans g₂).old _ hnone] at e; injection e
   ·exact p (.inr (.inr z))
 ·rcases z with z | z | z
  ·exact .inl (.inl z)
  ·exact .inl (.inr (.inl z))
  ·simp only [List.map_cons, List.mem_cons] at z
   refine Or.elim z (fun z => ?_) (fun z => ?_)
   ·rw [z]; exact .inr ((g.trans g₂).old _ hnone)
   ·exact .inl (.inr (.inr z))
theorem ex_forC {σ : Type} {x : Str} {px : Pos} {e : Expr} {body rest : List Stmt} {pos : Pos} {q : Addr} {df : D} {sent : List Nat} (hk : storable env x = true) (he : Ev G n env ρ ow e (own q)) (hq : ∃ dn, (q, OO.citer df sent dn) ∈ ow) (ρof : σ → Loc) (owof : σ → Own) (I : σ → Prop) (μ : σ → Nat) (b₀ : σ) (h0 : I b₀) (hρ : Sub (ρof b₀) ρ) (how : OSub (owof b₀) ow) (ha : ∀ b, keysOf (owof b) = keysOf ow)
  (Yes : σ → List Nat → Own → Prop) (No : σ → Own → Prop) (hnext : ∀ b, I b → NextC G n env (ρof b) (owof b) q (Yes b) (No b)) (hY : ∀ b l w, I b → Yes b l w → keysOf w = keysOf ow) (hN : ∀ b w, I b → No b w → keysOf w = keysOf ow)
  (turn : ∀ b l w, I b → Yes b l w → Ex G n env ((x, .str l) :: ρof b) w [body] (Out.wh G n env ow (rest :: bs) o ρof owof I μ (μ b)))
  (hend : ∀ b w, I b → No b w → Ex G n env (ρof b) w (rest :: bs) o) (hfold : ∀ x, foldedSetIterable e env x = pure x := by intro _; rfl) : Ex G n env ρ ow ((.For (.Name x px) e body [] pos :: rest) :: bs) o := .mk fun X A s E R B F => by
 have hnd : ∀ b, ((owof b).map (·.1)).Nodup := fun b => by rw [show (owof b).map (·.1) = ow.map (·.1) from ha b]; exact F.nd
 refine wpAny_execs_cons (wpAny_For (wpAny_mono (he.go X A s _ R F) (fun v s₁ z => ?_) fun _ _ y => y) hfold)
 obtain ⟨z, g⟩ := z
 refine Rep.eRaw z ?_
 have F₁ := F.keeps g
 refine el11 hq fun dn hm => ?_
 refine el22 ((F₁.owns _ hm).1) fun v0 t0 e0 _ => ?_
 refine iter_self e0 ?_
 refine codeAny_forLoop_any (WhI G env o.base ρof owof I μ ow s) ?_ (μ b₀) ⟨b₀, X, h0, rfl, B, F₁.less hρ how (hnd b₀), g.turn⟩
 intro k s₂ y0; obtain ⟨b, X', hI, rfl, B', F₂, t₂⟩ := y0
 refine (hnext b hI).go X' A s₂ _ _ R F₂ (fun v l w X'' s₃ hy nx rep F₃ t₃ hm₃ => ?_) fun w X'' s₃ hn nx F₃ t₃ hm₃ => ?_
 ·have t₃' : Turn env ow s₂ s₃ := t₃.more fun b' h => .inl (mut_same (ha b) h)
  refine wpAny_pure (wpAny_assign_Name (store_any hk F₃ rep fun h' tk F₄ t₄ _ => ?_))
  have t₄' : Turn env ow s₃ { s₃ with heap := h', toks := tk } := t₄.more fun b' h => .inl (mut_same (hY b l w hI hy) h)
  refine wpAny_mono ((turn b l w hI hy).go X'' A _ _ R (fun a q => nx.sub a (B' a q)) F₄) (fun f s₅ z => ?_) fun _ _ y => y
  obtain ⟨t₅, z⟩ := z
  have t₅' : Turn env ow { s₃ with heap := h', toks := tk } s₅ := t₅.more fun b' h => .inl (mut_same (hY b l w hI hy) h)
  have tt := ((t₂.trans t₃').trans t₄').trans t₅'
  cases f with
  | next => obtain ⟨X₅, r, w', hX, ⟨b', hI', hμ, hs, hw⟩, F₅⟩ := z; exact ⟨μ b', hμ, b', X₅, hI', rfl, hX, F₅.less hs hw (hnd _), tt⟩
  | cont => obtain ⟨X₅, r, w', hX, ⟨b', hI', hμ, hs, hw⟩, F₅⟩ := z; exact ⟨μ b', hμ, b', X₅, hI', rfl, hX, F₅.less hs hw (hnd _), tt⟩
  | brk =>
   obtain ⟨X₅, r, w', hX, ⟨ρ', ow', hs, hw, hm', hx⟩, F₅⟩ := z
   exact hx.from R hX (F₅.less hs hw (by rw [show ow'.map (·.1) = ow.map (·.1) from hm']; exact F.nd)) tt fun b' h => .inl (mut_same hm' h)
  | ret v => exact seqP_other (by simp) ⟨tt, z⟩
 ·have t₃' : Turn env ow s₂ s₃ := t₃.more fun b' h => .inl (mut_same (ha b) h)
  exact wpAny_execs_nil ((hend b w hI hn).from R (fun a q => nx.sub a (B' a q)) F₃ (t₂.trans t₃') fun b' h => .inl (mut_same (hN b w hI hn) h))
end
theorem EvG.own {G : Gd} {n : Nat} {env : Env} {ρ : Loc} {ow : Own} {e : Expr} {R R' : D → Own → Prop} (x : EvG G n env ρ ow e R) (h : ∀ d w, R d w → ∃ w', R' d w' ∧ OSub w' w ∧ ((keysOf w).Nodup → (keysOf w').Nodup)) : EvG G n env ρ ow e R' := ⟨fun X A s E Rm F => wpAny_mono (x.go X A s E Rm F) (fun v s' ⟨d, w, X', r, nx, rep, F', t', hm⟩ => by
 refine el13 (h d w r) fun w' r' hs hn => ?_
 exact ⟨d, w', X', r', nx, rep, F'.less (Sub.refl ρ) hs (hn F'.nd), t', fun b q => hm b (mut_sub hs q)⟩) fun _ _ y => y⟩
theorem Left.own {G : Gd} {X X' : List Addr} {c w w' : Own} {s s' : Shared} (L : Left G X X' c w s s') (hs : OSub w' w) (hn : (keysOf w).Nodup → (keysOf w').Nodup) : Left G X X' c w' s s' := by
 have hk : ∀ b ∈ keysOf w', b ∈ keysOf w := fun b q => by refine el12 (List.mem_map.mp q) fun p hp y0 => ?_; subst y0; exact List.mem_map.mpr ⟨p, hs p hp, rfl⟩
 exact ⟨L.newX, L.live, ⟨fun p hp => L.owns.all p (hs p hp), hn L.owns.nd, fun b q => L.owns.apart b (hk b q)⟩, L.keep, fun b q => L.keys b (hk b q)⟩
theorem FnG.own {G : Gd} {n : Nat} {f : Value} {ds : List D} {c : Own} {R R' : D → Own → Prop} (x : FnG G n f ds c R) (h : ∀ d w, R d w → ∃ w', R' d w' ∧ OSub w' w ∧ ((keysOf w).Nodup → (keysOf w').Nodup)) : FnG G n f ds c R' := ⟨fun X A s E vs Rm hb hX ra ho => codeAny_mono (x.code X A s E vs Rm hb hX ra ho) (fun r s' z => by
 rcases r with e | (v | _ | _ | _) <;> first | exact z | exact z.elim | (obtain ⟨d, c', X', r, rep, L⟩ := z; refine el13 (h d c' r) fun w' r' hs hn => ?_; exact ⟨d, w', X', r', rep, L.own hs hn⟩))⟩
end
section
theorem EvG.inn {G : Gd} {n : Nat} {env : Env} {ρ : Loc} {ow ow' : Own} {e : Expr} {R : D → Own → Prop} (hw : OSub ow' ow) (hnd : (keysOf ow).Nodup → (keysOf ow').Nodup) (x : EvG G n env ρ ow' e R) : EvG G n env ρ ow e R := .mk fun X A s E Rm F =>
 wpAny_mono (x.go X A s E Rm (F.less (Sub.refl ρ) hw (hnd F.nd))) (fun v s' ⟨d, w, X', r, nx, rep, F', t', hm⟩ =>
  ⟨d, w, X', r, nx, rep, F', t'.more fun b q => .inl (mut_sub hw q), fun b q => (hm b q).imp (mut_sub hw) id⟩) fun _ _ y => y
section
variable {G : Gd} {n : Nat} {env : Env} {da : Addr} {ρ : Loc}
noncomputable def TurnG (G : Gd) (n : Nat) (env : Env) (da : Addr) (ρ : Loc) (ow cown cown' : Own) (outs : List D) (target elt : Expr) (d d' : D) : Prop :=
 ∃ ρ', (∀ l, Asg G n env ((da, .list l) :: cown) (Mut env ((da, .list []) :: ow)) target d ρ ρ') ∧ Sub ρ ρ' ∧ EvG G n env ρ' ((da, .list outs) :: cown) elt (fun e w => e = d' ∧ w = (da, .list outs) :: cown')
theorem turnG_name {ow cown cown' : Own} {outs : List D} {x : Str} {px : Pos} {elt : Expr} {d d' : D} (hx : env.kindOf x = some .local) (hl : ρ.lookup x = none) (h : EvG G n env ((x, d) :: ρ) ((da, .list outs) :: cown) elt (fun e w => e = d' ∧ w = (da, .list outs) :: cown')) : TurnG G n env da ρ ow cown cown' outs (.Name x px) elt d d' :=
 ⟨(x, d) :: ρ, fun l => asg_name (by unfold storable; rw [hx]; rfl) (.inl rfl) (fun h => (by rw [hx] at h; (injection h with y0; injection y0))), sub_tail hl, h⟩
theorem loopG {elt iter target : Expr} {pos : Pos} {scope : Scope} {ds outs : List D} (ow : Own) (cown : Nat → Own) (hck : ∀ i, keysOf (cown i) = keysOf ow) (hlen : outs.length = ds.length)
  (hE : ∀ i d d', ds[i]? = some d → outs[i]? = some d' → TurnG G n env da ρ ow (cown i) (cown (i + 1)) (outs.take i) target elt d d')
  (X Y : List Addr) (A : Around) (s : Shared) (it : Value) (fp wr : List Addr) (St : List Addr → Nat → Heap → Prop) (R : Result → Shared → Prop) (Rm : Room n A) (F₀ : Fits G env Y ρ ((da, .list []) :: cown 0) s) (hXY : ∀ a ∈ X, a ∈ Y) (hwX : ∀ b ∈ wr, b ∈ Y) (hoX : ∀ b ∈ da :: keysOf ow, b ∈ X) (hL : Live X s.heap)
  (hR : Run G.prog G.w A target it fp wr ds St) (h0 : St Y 0 s.heap) (aw : ∀ b ∈ wr, ¬ Mut env ((da, .list []) :: ow) b ∧ G.H₀.get? b = none ∧ b ∉ X) (afp : ∀ b ∈ fp, ¬ Mut env ((da, .list []) :: ow) b) (hsz : outs.length ≤ sizeLine)
  (hend : ∀ s', Fits G env X ρ ((da, .list outs) :: cown ds.length) s' → Kin s s' → (∀ b o, ¬ Mut env ((da, .list []) :: ow) b → b ∉ wr → s.heap.get? b = some o → s'.heap.get? b = some o) → R (.ok .next) s') :
  codeAny (model G.prog G.w) A (.compLoop (.ListComp elt [⟨target, iter, [], 0⟩] scope pos) 0 it (.ref da) env) R s := by
 have hmm : ∀ (l : List D) i b, Mut env ((da, .list l) :: cown i) b → Mut env ((da, .list []) :: ow) b := fun l i b h => mut_same (by
  have := hck i; simp only [keysOf] at this; simp only [List.map_cons, this]) h
 have hmm' : ∀ (l : List D) i b, Mut env ((da, .list []) :: ow) b → Mut env ((da, .list l) :: cown i) b := fun l i b h => mut_same (by
  have := hck i; simp only [keysOf] at this; simp only [List.map_cons, this]) h
 have inX : ∀ (l : List D) i, ∀ p ∈ (da, OO.list l) :: cown i, p.1 ∈ X := fun l i p hp => by
  refine Or.elim (List.mem_cons.mp hp) (fun h => ?_) (fun h => ?_)
  ·rw [h]; exact hoX da (List.mem_cons_self ..)
  ·exact hoX _ (List.mem_cons_of_mem _ (by rw [← hck i]; exact List.mem_map.mpr ⟨p, h, rfl⟩))
 refine cp_turns (turn_one elt target iter [] scope pos it (.ref da) env) (fun k s' => ∃ i, i ≤ ds.length ∧ k = ds.length - i ∧ Fits G env Y ρ ((da, .list (outs.take i)) :: cown i) s' ∧ St Y i s'.heap ∧ Kin s s' ∧ (∀ b o, ¬ Mut env ((da, .list []) :: ow) b → b ∉ wr → s.heap.get? b = some o → s'.heap.get? b = some o)) ?_ ds.length
  ⟨0, Nat.zero_le _, rfl, by simpa using F₀, h0, .of, fun _ _ _ _ e => e⟩
 intro k s₂ E' y0; refine el16 y0 fun i hi y0 => ?_; subst y0; intro F₂ st e₂ hk₂
 refine Or.elim (Nat.lt_or_ge i ds.length) (fun hlt => ?_) (fun hge => ?_)
 ·refine el11 (⟨ds[i], List.getElem?_eq_getElem hlt⟩ : ∃ d, ds[i]? = some d) fun d hd => ?_
  refine el11 (⟨outs[i]'(by omega), List.getElem?_eq_getElem (by omega)⟩ : ∃ d', outs[i]? = some d') fun d' hd' => ?_
  have htake : outs.take (i + 1) = outs.take i ++ [d'] := by rw [List.take_add_one, hd']; rfl
  let I' : Shared → Prop := fun s₃ => ∃ m, m < ds.length - i ∧ ∃ j, j ≤ ds.length ∧ m = ds.length - j ∧ Fits G env Y ρ ((da, .list (outs.take j)) :: cown j) s₃ ∧ St Y j s₃.heap ∧ Kin s s₃ ∧ (∀ b o, ¬ Mut env ((da, .list []) :: ow) b → b ∉ wr → s.heap.get? b = some o → s₃.heap.get? b = some o)
  refine wpAny_mono (hR.item Y i d _ (fun v s₃ => wpAny (model G.prog G.w) A (assign target env v) (fun _ s₂' => wpAny (model G.prog G.w) A (testsOf [] env) (fun ok s₃ => if ok = true then ∀ k Q, (∀ s₅, I' s₅ → wpAny (model G.prog G.w) A k Q E' s₅) → wpAny (model G.prog G.w) A (putOut (.ref da) elt env k) Q E' s₃ else I' s₃) E' s₂') E' s₃) E' hwX hd st F₂.live fun v h' tk hv st' hk hl => ?_) (fun r s₃ q => ?_) fun _ _ y => y
  ·have F₃ : Fits G env Y ρ ((da, .list (outs.take i)) :: cown i) { s₂ with heap := h', toks := tk } := F₂.wr (tk := tk) hk hwX (fun _ q => q) (fun p hp => (F₂.owns p hp).2) (fun b hb _ => hl b hb) fun b hb => ⟨fun q => (aw b hb).1 (hmm _ _ b q), (aw b hb).2.1⟩
   refine el13 (hE i d d' hd hd') fun ρ' hasg hsub hev => ?_
   refine (hasg _).go Y A _ _ _ v Rm F₃ hv fun s₄ e₄ k₄ F₄ => ?_
   have st₄ : St Y (i + 1) s₄.heap := hR.frame _ _ _ _ st' (fun b hb o e => k₄ b o (afp b hb) e) fun b o hb l e => k₄ b o (fun q => F₃.look_away hb e l (hmm' _ _ b q)) e
   refine wpAny_tests_nil ?_
   rw [if_pos rfl]
   intro kk Q hkk
   refine wpAny_bind (wpAny_bind (wpAny_mono (hev.go Y A _ E' Rm F₄) (fun v s₅ q => ?_) fun _ _ y => y))
   obtain ⟨_, _, X', ⟨rfl, rfl⟩, nx, rep, F₅, t₅, hm₅⟩ := q
   have t₅' := t₅.more (ow := (da, .list []) :: ow) fun b q => .inl (hmm _ _ b q)
   have F₅' : Fits G env Y ρ' ((da, .list (outs.take i)) :: cown (i + 1)) s₅ := F₅.subX nx.sub fun p hp => hXY _ (inX _ _ p hp)
   refine wpAny_bind (append_own F₅' (.head _) (rep.sub nx.sub) (by rw [List.length_take]; omega) fun h₆ tk₆ F₆ t₆ k₆ => wpAny_pure (hkk _ ?_))
   have t₆' := t₆.more (ow := (da, .list []) :: ow) fun b q => .inl (hmm _ _ b q)
   refine ⟨ds.length - (i + 1), by omega, i + 1, hlt, rfl, ?_, ?_, ?_, fun b o hb hw e => t₆'.heap b o hb (t₅'.heap b o hb (k₄ b o hb (hk b o hw (hk₂ b o hb hw e))))⟩
   ·rw [htake]; exact F₆.sub hsub
   ·refine hR.frame _ _ _ _ (hR.frame _ _ _ _ st₄ (fun b hb o e => t₅'.heap b o (afp b hb) e) (t₅.sameX F₄)) (fun b hb o e => t₆'.heap b o (afp b hb) e) (t₆.sameX F₅')
   ·exact ((e₂.trans (Kin.of.trans e₄)).trans t₅.same).trans t₆.same
  ·refine el12 q fun v y0 => ?_; subst y0; intro q
   exact q
 ·have : i = ds.length := Nat.le_antisymm hi hge
  subst this
  refine hR.done _ _ _ _ st fun h' tk hk => ?_
  rw [← hlen, List.take_length, hlen] at F₂
  have F₃ : Fits G env X ρ ((da, .list outs) :: cown ds.length) { s₂ with heap := h', toks := tk } := F₂.wr (tk := tk) hk hwX hXY (inX _ _) (fun b hb hbX => absurd hbX (aw b hb).2.2) fun b hb => ⟨fun q => (aw b hb).1 (hmm _ _ b q), (aw b hb).2.1⟩
  exact hend _ F₃ (e₂.trans .of) fun b o hb hw e => hk b o hw (hk₂ b o hb hw e)
end
section
variable {G : Gd} {n : Nat} {env : Env} {X : List Addr} {ρ : Loc} {ow : Own} {s : Shared}
theorem Fits.compG (F : Fits G env X ρ ow s) {scope : Scope} {ρc : Loc} {D C : Addr} {s' : Shared} (g : Grow s s') (hf : FSub scope env ρc ρ) (hkind : scope.kind = .function) (hD : s.heap.get? D = none) (hC : s.heap.get? C = none) (hDC : D ≠ C) (hl : PL s'.heap D []) {m : Str → Option Value} (hn : s'.heap.Ns C m) :
  Fits G (cenvOf scope env C) (D :: X) ρc ((D, .list []) :: ow) s' := by
 have Fc := F.comp g hf hkind hD hC hDC hl hn
 have F' := F.more (wr := [D]) g fun b hb => by rw [List.mem_singleton.mp hb]; refine el11 hl fun k e => ?_; exact ⟨hD, _, e⟩
 have hcl : ∀ x c, (closN env.cells scope.names []).lookup x = some c → env.cells.lookup x = some c := fun x c e => closN_get (fun _ _ h => by injection h) x c e
 have hown : ∀ b ∈ keysOf ow, ∃ o, s.heap.get? b = some o := fun b q => by refine el12 (List.mem_map.mp q) fun p hp y0 => ?_; subst y0; exact own_there (F.owns p hp).1
 refine ⟨Fc.base, Fc.fn, Fc.gl, Fc.bl, Fc.ns, Fc.vars, fun p hp => ?_, ?_, Fc.live, fun b o e q => ?_, Fc.inj, Fc.cel, fun p hp => ?_⟩
 ·refine Or.elim (List.mem_cons.mp hp) (fun q => ?_) (fun q => ?_)
  ·rw [q]; exact Fc.owns _ (List.mem_singleton.mpr rfl)
  ·exact F'.owns p q
 ·rw [List.map_cons, List.nodup_cons]
  refine ⟨fun q => ?_, F.nd⟩
  refine el11 (hown D q) fun o e => ?_
  rw [hD] at e; injection e
 ·rcases q with q | q | q
  ·exact Fc.apart b o e (.inl q)
  ·exact Fc.apart b o e (.inr (.inl q))
  ·refine Or.elim (List.mem_cons.mp q) (fun q => ?_) (fun q => ?_)
   ·exact Fc.apart b o e (.inr (.inr (by rw [q]; exact List.mem_singleton.mpr rfl)))
   ·exact F.apart b o e (.inr (.inr q))
 ·refine Or.elim (List.mem_cons.mp hp) (fun q => ?_) (fun q => ?_)
  ·rw [q]; exact Fc.sep _ (List.mem_singleton.mpr rfl)
  ·refine ⟨fun z => ?_, fun n c hc => (F.sep p q).2 n c (hcl n c hc)⟩
   refine el11 (hown p.1 (List.mem_map.mpr ⟨p, q, rfl⟩)) fun o e => ?_
   rw [show p.1 = C from z, hC] at e; injection e
theorem comp_G {A : Around} {E : Value → Shared → Prop} {ρc : Loc} {target iter elt : Expr} {scope : Scope} {pos p : Pos} {ds outs : List D} {use : Option (Value → Sem Unit)} {Q : Value → Shared → Prop} (cown : Nat → Own) (R : Room n A) (F : Fits G env X ρ ow s)
  (hs : Src G n env ρ ow target iter ds) (hfold : ∀ x, foldedSetIterable iter env x = pure x) (hcl : closOk env.cells scope.names = true) (hkind : scope.kind = .function) (hnames : ∀ x ∈ scope.names, x.2 = .local → scope.names.lookup x.1 = some .local) (hcell : ∀ y ∈ scope.names, y.2 ≠ .cell)
  (hf : FSub scope env ρc ρ) (hcov : ∀ y c, (closN env.cells scope.names []).lookup y = some c → ∃ d, ρc.lookup y = some d) (hc0 : cown 0 = ow) (hck : ∀ i, keysOf (cown i) = keysOf ow) (hlen : outs.length = ds.length)
  (hE : ∀ C D i d d', ds[i]? = some d → outs[i]? = some d' → TurnG G n (cenvOf scope env C) D ρc ow (cown i) (cown (i + 1)) (outs.take i) target elt d d') (hsz : outs.length ≤ sizeLine)
  (h : ∀ D C s' m, Fits G env X ρ (cown ds.length) s' → Turn env ow s s' → Rep X s'.heap (.ref D) (.list outs) → s.heap.get? C = none → s'.heap.Ns C m → compPost (model G.prog G.w) A E use Q (.ref D) C (.ok .next) s') :
  wpAny (model G.prog G.w) A (comprehension (.ListComp elt [⟨target, iter, [], 0⟩] scope pos) scope env p (newList []) false (eval iter env) use) Q E s := by
 refine wpAny_comprehension_free rfl hfold (closureFor_is hcl) hkind hnames (hs.go X A s _ E R F fun it fp wr St s₂ hR h0 g hw hf' => ?_)
 refine wpAny_newObj_type (wpAny_newFunctionEnv hcell (by intro y hy; simp at hy) (fun h₁ hns₁ hsb₁ => ?_) hkind)
 dsimp only at hns₁ hsb₁ ⊢
 generalize hH2 : s₂.heap.push { cls := .type "list", dict := none, data := .seq ([] : List Value).toArray } = H2 at hns₁ hsb₁ ⊢
 have hC : H2.objs.size = s₂.heap.objs.size + 1 := by rw [← hH2, Heap.size_push]
 have hDC : s₂.heap.objs.size ≠ H2.objs.size := by rw [hC]; exact Nat.ne_of_lt (Nat.lt_succ_self _)
 have old : ∀ b o, s₂.heap.get? b = some o → h₁.get? b = some o := fun b o e => hsb₁.extBut b o (by rw [hC]; exact Nat.ne_of_lt (Nat.lt_succ_of_lt (Heap.lt_size e))) (Heap.get?_push_of_some _ (hH2 ▸ Heap.get?_push_of_some _ e))
 have hacc : PL h₁ s₂.heap.objs.size [] := ⟨_, hsb₁.extBut _ _ hDC (Heap.get?_push_of_some _ (hH2 ▸ Heap.get?_push_size _ rfl))⟩
 have none2 : ∀ a, s₂.heap.objs.size ≤ a → s₂.heap.get? a = none := fun a ha => by
  cases e : s₂.heap.get? a with
  | none => rfl
  | some o' => exact absurd (Heap.lt_size e) (Nat.not_lt.mpr ha)
 have none0 : ∀ a, s₂.heap.get? a = none → s.heap.get? a = none := fun a ha => by
  cases e : s.heap.get? a with
  | none => rfl
  | some o' => rw [g.heap a o' e] at ha; injection ha
 have hD2 := none2 _ (Nat.le_refl _)
 have hC2 := none2 H2.objs.size (by rw [hC]; exact Nat.le_succ _)
 generalize hD : s₂.heap.objs.size = D at *
 generalize hCC : H2.objs.size = C at *
 have F₂ : Fits G env (wr ++ X) ρ ow s₂ := F.more g hw
 have hclo : ∀ n' b, (closN env.cells scope.names []).lookup n' = some b → env.cells.lookup n' = some b := fun n' b q => closN_get (fun _ _ h => by injection h) n' b q
 have hmut : ∀ b o, s.heap.get? b = some o → ¬ Mut env ow b → ¬ Mut (cenvOf scope env C) ((D, .list []) :: ow) b := fun b o e q z => by
  rcases z with z | ⟨n', z⟩ | z
  ·rw [show b = C from z, none0 C hC2] at e; injection e
  ·exact q (.inr (.inl ⟨n', hclo n' b z⟩))
  ·refine Or.elim (List.mem_cons.mp z) (fun z => ?_) (fun z => ?_)
   ·rw [show b = D from z, none0 D hD2] at e; injection e
   ·exact q (.inr (.inr z))
 have key : ∀ s₃ : Shared, s₃ = { s₂ with heap := h₁, toks := s₂.toks + ([] : List (Str × Value)).length } →
   codeAny (model G.prog G.w) A (.compLoop (.ListComp elt [⟨target, iter, [], 0⟩] scope pos) 0 it (.ref D) (cenvOf scope env C)) (compPost (model G.prog G.w) A E use Q (.ref D) C) s₃ := by
  intro s₃ hs₃
  have g₃ : Grow s₂ s₃ := by rw [hs₃]; exact .of old
  have hl₃ : PL s₃.heap D [] := by rw [hs₃]; exact hacc
  have hn₃ : s₃.heap.Ns C (fun x => ([] : List (Str × Value)).reverse.lookup x) := by rw [hs₃]; exact hns₁
  have Fc := F₂.compG g₃ hf hkind hD2 hC2 hDC hl₃ hn₃
  have R' := hR A R.hd
  have st₂ : St (D :: (wr ++ X)) 0 s₂.heap := R'.lift _ _ _ _ h0 hD2
  have st₃ : St (D :: (wr ++ X)) 0 s₃.heap := R'.frame _ _ _ _ st₂ (fun b _ o e => g₃.heap b o e) fun b o _ _ e => g₃.heap b o e
  have awc : ∀ b ∈ wr, ¬ Mut (cenvOf scope env C) ((D, .list []) :: ow) b ∧ G.H₀.get? b = none ∧ b ∉ D :: X := fun b hb => by
   have h1 := F.new_away (hw b hb).1
   refine el11 ((hw b hb).2) fun ob eb => ?_
   have hbD : b ≠ D := fun q => by rw [q, hD2] at eb; injection eb
   have hbC : b ≠ C := fun q => by rw [q, hC2] at eb; injection eb
   refine ⟨fun q => ?_, h1.2, fun q => ?_⟩
   ·rcases q with q | ⟨n', q⟩ | q
    ·exact hbC q
    ·exact h1.1 (.inr (.inl ⟨n', hclo n' b q⟩))
    ·refine Or.elim (List.mem_cons.mp q) (fun q => ?_) (fun q => ?_)
     ·exact hbD q
     ·exact h1.1 (.inr (.inr q))
   ·refine Or.elim (List.mem_cons.mp q) (fun q => ?_) (fun q => ?_)
    ·exact hbD q
    ·refine el11 (F.live b q) fun o e => ?_; rw [(hw b hb).1] at e; injection e
  have afp : ∀ b ∈ fp, ¬ Mut (cenvOf scope env C) ((D, .list []) :: ow) b := fun b hb z => by
   rcases hf' b hb with q | ⟨q, ob, eo, l⟩
   ·exact (awc b q).1 z
   ·have hno := (F.keeps g).look_away q eo l
    rcases z with z | ⟨n', z⟩ | z
    ·rw [show b = C from z, hC2] at eo; injection eo
    ·exact hno (.inr (.inl ⟨n', hclo n' b z⟩))
    ·refine Or.elim (List.mem_cons.mp z) (fun z => ?_) (fun z => ?_)
     ·rw [show b = D from z, hD2] at eo; injection eo
     ·exact hno (.inr (.inr z))
  refine loopG (elt := elt) (iter := iter) (pos := pos) (scope := scope) ow cown hck hlen (hE C D) (D :: X) (D :: (wr ++ X)) A s₃ it fp wr St _ R (by rw [hc0]; exact Fc) (fun a q => ?_) (fun b hb => List.mem_cons_of_mem _ (List.mem_append_left _ hb)) (fun b q => ?_) (fun a q => ?_) R' st₃ awc afp hsz fun s₄ F₄ e₄ k₄ => ?_
  ·refine Or.elim (List.mem_cons.mp q) (fun q => ?_) (fun q => ?_)
   ·exact q ▸ List.mem_cons_self ..
   ·exact List.mem_cons_of_mem _ (List.mem_append_right _ q)
  ·refine Or.elim (List.mem_cons.mp q) (fun q => ?_) (fun q => ?_)
   ·exact q ▸ List.mem_cons_self ..
   ·refine el12 (List.mem_map.mp q) fun p hp y0 => ?_; subst y0
    exact List.mem_cons_of_mem _ (F.owns p hp).2
  ·exact Fc.live a (by
    refine Or.elim (List.mem_cons.mp q) (fun q => ?_) (fun q => ?_)
    ·exact q ▸ List.mem_cons_self ..
    ·exact List.mem_cons_of_mem _ (List.mem_append_right _ q))
  ·have up : ∀ b o, ¬ Mut env ow b → s.heap.get? b = some o → s₄.heap.get? b = some o := fun b o hb e =>
    k₄ b o (hmut b o e hb) (fun q => by rw [(hw b q).1] at e; injection e) (g₃.heap b o (g.heap b o e))
   have tt : Turn env ow s s₄ := ⟨g.same.trans (by subst hs₃; exact ⟨e₄.os, e₄.bare⟩), up⟩
   have hDX : D ∉ X := fun q => by refine el11 (F.live D q) fun o e => ?_; rw [none0 _ hD2] at e; injection e
   have hnl : ¬ Mut (cenvOf scope env C) ((D, .list []) :: ow) env.locals := fun q => by
    refine el11 F.ns fun m' hm' => ?_
    refine el32 (id hm') fun ol _ _ eol _ => ?_
    rcases q with q | ⟨n', q⟩ | q
    ·rw [show env.locals = C from q, none0 C hC2] at eol; injection eol
    ·refine el11 (F.cel n' _ (hclo n' _ q)) fun v hv => ?_
     exact ns_ne_cell hm' hv rfl
    ·refine Or.elim (List.mem_cons.mp q) (fun q => ?_) (fun q => ?_)
     ·rw [show env.locals = D from q, none0 D hD2] at eol; injection eol
     ·refine el12 (List.mem_map.mp q) fun p hp e => ?_
      exact (F.sep p hp).1 e
   have keepL : ∀ o, s.heap.get? env.locals = some o → s₄.heap.get? env.locals = some o := fun o e => k₄ _ o hnl (fun q => by rw [(hw _ q).1] at e; injection e) (g₃.heap _ o (g.heap _ o e))
   have keepC : ∀ y c, env.cells.lookup y = some c → (closN env.cells scope.names []).lookup y = none → ∀ o, s.heap.get? c = some o → s₄.heap.get? c = some o := fun y c hc hno o e => by
    refine k₄ c o (fun q => ?_) (fun q => by rw [(hw _ q).1] at e; injection e) (g₃.heap _ o (g.heap _ o e))
    rcases q with q | ⟨n', q⟩ | q
    ·rw [show c = C from q, none0 C hC2] at e; injection e
    ·have := F.inj n' y c (hclo n' c q) hc
     subst this
     rw [show (closN env.cells scope.names []).lookup _ = some c from q] at hno; injection hno
    ·refine Or.elim (List.mem_cons.mp q) (fun q => ?_) (fun q => ?_)
     ·rw [show c = D from q, none0 D hD2] at e; injection e
     ·refine el12 (List.mem_map.mp q) fun p hp e' => ?_
      exact (F.sep p hp).2 y c hc e'
   have hsame : Same X s.heap s₄.heap := tt.sameX F
   have Fe : Fits G env X ρ (cown ds.length) s₄ := by
    refine ⟨F₄.base, F.fn, F.gl, F.bl, ?_, fun y d e => ?_, fun p hp => ?_, ?_, fun a ha => F₄.live a (List.mem_cons_of_mem _ ha), fun b o e q => F.apart b o e (mut_same (hck _) q), F.inj, fun y c e => ?_, fun p hp => ?_⟩
    ·refine el11 F.ns fun m' hm' => ?_; exact ⟨m', hm'.at' keepL⟩
    ·cases F.vars y d e with
     | loc m v a b z r => exact .loc m v a (b.at' keepL) z (r.mono hsame)
     | cell c v a b e' r =>
      cases hq : (closN env.cells scope.names []).lookup y with
      | none => exact .cell c v a b (let ⟨o, ho, hd⟩ := e'; ⟨o, keepC y c b hq o ho, hd⟩) (r.mono hsame)
      | some c' =>
       have := hclo y c' hq
       rw [b] at this; (injection this with y0; subst y0)
       refine el11 (hcov y c hq) fun d' hd' => ?_
       have h1 := (hf.get y d' hd').1
       rw [e] at h1; (injection h1 with y0; subst y0)
       cases F₄.vars y d hd' with
       | loc m v' a' b' z r' =>
        exfalso
        have : (relabel scope env).names.lookup y = some .local := a'
        have hfree : scope.names.lookup y = some .free := by
         have := (hf.get y d hd').2
         unfold freeIn at this
         simp only [Bool.and_eq_true, beq_iff_eq] at this
         exact this.1
        refine Or.elim (relabel_free (env := env) hfree) (fun z => ?_) (fun z => ?_) <;> (rw [z] at this; (injection this with y0; injection y0))
       | cell c'' v' a' b' e'' r' =>
        rw [show (closN env.cells scope.names []).lookup y = some c'' from b'] at hq; (injection hq with y0; subst y0)
        exact .cell _ v' a b e'' (r'.sub fun a q => List.mem_cons_of_mem _ q)
    ·have hk : p.1 ∈ keysOf ow := by rw [← hck ds.length]; exact List.mem_map.mpr ⟨p, hp, rfl⟩
     refine el12 (List.mem_map.mp hk) fun p' hp' e' => ?_
     refine ⟨(F₄.owns p (List.mem_cons_of_mem _ hp)).1.subX fun a q => List.mem_cons_of_mem _ q, ?_⟩
     rw [← e']; exact (F.owns p' hp').2
    ·have := hck ds.length; unfold keysOf at this; rw [this]; exact F.nd
    ·cases hq : (closN env.cells scope.names []).lookup y with
     | none => refine el22 (F.cel y c e) fun v o ho hd => ?_; exact ⟨v, o, keepC y c e hq o ho, hd⟩
     | some c' =>
      have := hclo y c' hq
      rw [e] at this; (injection this with y0; subst y0)
      exact F₄.cel y c hq
    ·have hk : p.1 ∈ keysOf ow := by rw [← hck ds.length]; exact List.mem_map.mpr ⟨p, hp, rfl⟩
     refine el12 (List.mem_map.mp hk) fun p' hp' e' => ?_
     have := F.sep p' hp'
     rw [e'] at this; exact this
   refine el11 F₄.ns fun m hm => ?_
   refine el12 ((F₄.owns _ (List.mem_cons_self ..)).1) fun vs hlD ra => ?_
   exact h D C s₄ m Fe tt (.list hlD hDX (ra.sub fun a q => List.mem_cons_of_mem _ q)) (none0 _ hC2) hm
 exact codeAny_compStart_list (key _ rfl) ((hR A R.hd).self (wr ++ X) 0 _ _ _ ((hR A R.hd).frame _ _ _ _ h0 (fun b _ o e => old b o e) fun b o _ _ e => old b o e) (key _ rfl))
theorem ex_compG {y : Str} {py spos : Pos} {target : Expr} {rest : List Stmt} {bs : List (List Stmt)} {o : Out} {ρc : Loc} {iter elt : Expr} {scope : Scope} {pos : Pos} {ds outs : List D} (cown : Nat → Own) (hk : storable env y = true) (hsw : swapsWith (.ListComp elt [⟨target, iter, [], 0⟩] scope pos) (some (.Name y py)) spos.line env = pure true) (hs : Src G n env ρ ow target iter ds) (hfold : ∀ x, foldedSetIterable iter env x = pure x)
  (hcl : closOk env.cells scope.names = true) (hkind : scope.kind = .function) (hnames : ∀ x ∈ scope.names, x.2 = .local → scope.names.lookup x.1 = some .local) (hcell : ∀ y ∈ scope.names, y.2 ≠ .cell)
  (hf : FSub scope env ρc ρ) (hcov : ∀ y c, (closN env.cells scope.names []).lookup y = some c → ∃ d, ρc.lookup y = some d) (hc0 : cown 0 = ow) (hck : ∀ i, keysOf (cown i) = keysOf ow) (hlen : outs.length = ds.length)
  (hE : ∀ C D i d d', ds[i]? = some d → outs[i]? = some d' → TurnG G n (cenvOf scope env C) D ρc ow (cown i) (cown (i + 1)) (outs.take i) target elt d d') (hsz : outs.length ≤ sizeLine)
  (h : Ex G n env ((y, .list outs) :: ρ) (cown ds.length) (rest :: bs) o) :
  Ex G n env ρ ow ((.Assign [.Name y py] (.ListComp elt [⟨target, iter, [], 0⟩] scope pos) spos :: rest) :: bs) o := .mk fun X A s E R B F => by
 refine wpAny_execs_cons ?_
 rw [exec_Assign_Name_used _ _ _ _ hsw]
 refine wpAny_bind (wpAny_standAt (wpAny_bind ?_))
 refine wpAny_bind (wpAny_mono (comp_G (use := some (assign (.Name y py) env)) (Q := fun _ s' => seqP (model G.prog G.w) A env E (rest :: bs) (ExQ G env ow o s) .next s') cown R F hs hfold hcl hkind hnames hcell hf hcov hc0 hck hlen hE hsz fun D C s' m F' g r hC hn => ?_) (fun _ s' hq => wpAny_pure (wpAny_pure hq)) fun _ _ y => y)
 refine wpAny_assign_Name (store_any hk F' r fun h₁ t₁ F₁ T₁ k₁ => ?_)
 have away := F.new_away hC
 have hne : C ≠ env.locals := fun q => away.1 (.inl q)
 have hn₁ : h₁.Ns C m := hn.at' fun o e => k₁ C o hne (fun _ c hc q => away.1 (.inr (.inl ⟨y, q ▸ hc⟩))) e
 refine ⟨m, hn₁, fun h' hs' => ?_⟩
 have hCX : C ∉ X := fun q => by refine el11 (F.live C q) fun o e => ?_; rw [hC] at e; injection e
 have away' : ¬ Mut env (cown ds.length) C := fun q => away.1 (mut_same (hck _) q)
 have F₂ : Fits G env X ((y, .list outs) :: ρ) (cown ds.length) { s' with heap := h', toks := t₁ } := F₁.but (tk := t₁) hs' (ns_look hn₁) away' away.2 hCX
 refine h.from R B F₂ ?_ fun b q => .inl (mut_same (hck _) q)
 have T₁' : Turn env ow s' { s' with heap := h₁, toks := t₁ } := T₁.more fun b q => .inl (mut_same (hck _) q)
 have tt := g.trans T₁'
 exact ⟨tt.same.trans .of, fun b o hb e => (hs'.2 b fun q => by rw [q, hC] at e; injection e).trans (tt.heap b o hb e)⟩
end
end
section
structure ZA (z TI TO i1 i2 : Addr) (fp1 fp2 : List Addr) : Prop where
 TIz : TI ≠ z
 TOz : TO ≠ z
 i1z : i1 ≠ z
 i2z : i2 ≠ z
 TITO : TI ≠ TO
 TIi1 : TI ≠ i1
 TIi2 : TI ≠ i2
 TOi1 : TO ≠ i1
 TOi2 : TO ≠ i2
 i12 : i1 ≠ i2
 f1 : z ∉ fp1 ∧ TO ∉ fp1 ∧ i2 ∉ fp1
 f2 : z ∉ fp2 ∧ TO ∉ fp2 ∧ i1 ∉ fp2
theorem Draws.but {prog : Program} {w : World} {A : Around} {it c : Addr} {fp : List Addr} {n i : Nat} {P : Nat → Value → Prop} {St : Nat → Heap → Prop} (D : Draws prog w A it fp n P St) {h h' : Heap} (st : St i h) (hc : c ∉ fp) (hs : Heap.SameBut c h h') : St i h' :=
 D.frame i h h' st fun b hb o e => hs.extBut b o (fun q => hc (q ▸ hb)) e
section
variable {prog : Program} {w : World} {A : Around} {E : Value → Shared → Prop} {s : Shared}
variable {z TI TO i1 i2 : Addr} {fp1 fp2 : List Addr} {n1 n2 k1 k2 : Nat} {P1 P2 : Nat → Value → Prop} {S1 S2 : Nat → Heap → Prop} {a b : Value}
theorem zipD_item {Q : Value → Shared → Prop} (D₁ : Draws prog w A i1 fp1 n1 P1 S1) (D₂ : Draws prog w A i2 fp2 n2 P2 S2) (Z : ZA z TI TO i1 i2 fp1 fp2)
  (hz : IsZip s.heap z TI TO .none) (hTI : IsPair s.heap TI (.ref i1) (.ref i2)) (hTO : IsPair s.heap TO a b) (h1 : S1 k1 s.heap) (h2 : S2 k2 s.heap) (l1 : k1 < n1) (l2 : k2 < n2)
  (hQ : ∀ h' tk x y, P1 k1 x → P2 k2 y → IsZip h' z TI TO (rawInt s.heap.objs.size) → IsPair h' TO x y → S1 (k1 + 1) h' → S2 (k2 + 1) h' → IsPair h' s.heap.objs.size x y →
   (∀ c o, c ≠ z → c ≠ TO → c ≠ i1 → c ≠ i2 → s.heap.get? c = some o → h'.get? c = some o) → Q (.ref s.heap.objs.size) { s with heap := h', toks := tk }) :
  wpAny (model prog w) A (Builtin.«zip.__next__» ⟨[.ref z], []⟩) (fun fin s' => ∃ v, fin = .done (.ret v) ∧ Q v s') E s := by
 show wpAny _ _ (field (.ref z) 2 >>= _) _ _ _
 refine wpAny_bind (wpAny_field hz rfl (x := .bool false) rfl ?_)
 show wpAny _ _ (field (.ref z) 3 >>= _) _ _ _
 refine wpAny_bind (wpAny_field hz rfl (x := .ref TI) rfl ?_)
 refine wpAny_bind (wpAny_seqItems hTI rfl ?_)
 show wpAny _ _ (Builtin.SmallTypes.ownedTupleIsFree (.ref z) >>= _) _ _ _
 refine wpAny_bind ?_
 unfold Builtin.SmallTypes.ownedTupleIsFree
 refine wpAny_bind (wpAny_field hz rfl (x := .none) rfl (wpAny_pure ?_))
 simp only [if_true]
 refine wpAny_bind (wpAny_rule ?_)
 refine wpAny_bind (wpAny_field hz rfl (x := .ref TO) rfl ?_)
 refine wpAny_bind (wpAny_setField_rec hz (by simp) fun h₁ hz₁ hs₁ => ?_)
 replace hz₁ : IsZip h₁ z TI TO .ellipsis := hz₁
 refine wpAny_bind ?_
 simp only [List.zipIdx_cons, List.zipIdx_nil, List.forIn_cons, List.forIn_nil]
 refine wpAny_bind (wpAny_bind (wpAny_onRaise ?_))
 show wpAny _ _ (Builtin.SmallTypes.nextOf (.ref i1) >>= _) _ _ _
 refine wpAny_bind (D₁.item k1 _ _ _ l1 (Draws.but D₁ h1 Z.f1.1 hs₁) fun x h₂ tk₂ px h1₂ hs₂ => wpAny_pure ?_)
 have hTO₂ : IsPair h₂ TO a b := hs₂.extBut _ _ Z.TOi1 (hs₁.extBut _ _ Z.TOz hTO)
 refine wpAny_bind (wpAny_seqItems hTO₂ rfl ?_)
 refine wpAny_bind (wpAny_updateSeq_pair hTO₂ fun h₃ hTO₃ hs₃ => ?_)
 replace hTO₃ : IsPair h₃ TO x b := hTO₃
 refine wpAny_bind (wpAny_letGo (wpAny_pure ?_))
 refine wpAny_bind (wpAny_bind (wpAny_onRaise ?_))
 show wpAny _ _ (Builtin.SmallTypes.nextOf (.ref i2) >>= _) _ _ _
 refine wpAny_bind (D₂.item k2 _ _ _ l2 (Draws.but D₂ (Draws.but D₂ (Draws.but D₂ h2 Z.f2.1 hs₁) Z.f2.2.2 hs₂) Z.f2.2.1 hs₃) fun y h₄ tk₄ py h2₄ hs₄ => wpAny_pure ?_)
 have hTO₄ : IsPair h₄ TO x b := hs₄.extBut _ _ Z.TOi2 hTO₃
 refine wpAny_bind (wpAny_seqItems hTO₄ rfl ?_)
 refine wpAny_bind (wpAny_updateSeq_pair hTO₄ fun h₅ hTO₅ hs₅ => ?_)
 replace hTO₅ : IsPair h₅ TO x y := hTO₅
 refine wpAny_bind (wpAny_letGo (wpAny_pure (wpAny_pure ?_)))
 refine wpAny_bind (wpAny_seqItems hTO₅ rfl ?_)
 refine wpAny_bind (wpAny_newTuple ?_)
 have hsz : h₅.objs.size = s.heap.objs.size := by rw [hs₅.1, hs₄.1, hs₃.1, hs₂.1, hs₁.1]
 have hz₅ : IsZip h₅ z TI TO .ellipsis := hs₅.extBut _ _ Z.TOz.symm (hs₄.extBut _ _ Z.i2z.symm (hs₃.extBut _ _ Z.TOz.symm (hs₂.extBut _ _ Z.i1z.symm hz₁)))
 have hk₅ : ∀ c o, c ≠ z → c ≠ TO → c ≠ i1 → c ≠ i2 → s.heap.get? c = some o → h₅.get? c = some o := fun c o c1 c2 c3 c4 e =>
  hs₅.extBut _ _ c2 (hs₄.extBut _ _ c4 (hs₃.extBut _ _ c2 (hs₂.extBut _ _ c3 (hs₁.extBut _ _ c1 e))))
 have h1₅ : S1 (k1 + 1) h₅ := Draws.but D₁ (Draws.but D₁ (Draws.but D₁ h1₂ Z.f1.2.1 hs₃) Z.f1.2.2 hs₄) Z.f1.2.1 hs₅
 have h2₅ : S2 (k2 + 1) h₅ := Draws.but D₂ h2₄ Z.f2.2.1 hs₅
 have hzlt : z < h₅.objs.size := Heap.lt_size hz₅
 show wpAny _ _ (Builtin.SmallTypes.ownedTupleHandOut (.ref z) (.ref h₅.objs.size) >>= _) _ _ _
 refine wpAny_bind ?_
 unfold Builtin.SmallTypes.ownedTupleHandOut
 have hz₆ : IsZip (h₅.push { cls := .type "tuple", data := .seq #[x, y] }) z TI TO .ellipsis := Heap.get?_push_of_some _ hz₅
 refine wpAny_bind (wpAny_setField_rec hz₆ (by simp) fun h₇ hz₇ hs₇ => ?_)
 replace hz₇ : IsZip h₇ z TI TO (rawInt h₅.objs.size) := hz₇
 refine wpAny_setField_rec hz₇ (by simp) fun h₈ hz₈ hs₈ => ?_
 replace hz₈ : IsZip h₈ z TI TO (rawInt h₅.objs.size) := hz₈
 have up : ∀ c o, c ≠ z → h₅.get? c = some o → h₈.get? c = some o := fun c o c1 e => hs₈.extBut _ _ c1 (hs₇.extBut _ _ c1 (Heap.get?_push_of_some _ e))
 have hT₈ : IsPair h₈ h₅.objs.size x y := hs₈.extBut _ _ (Nat.ne_of_gt hzlt) (hs₇.extBut _ _ (Nat.ne_of_gt hzlt) (Heap.get?_push_size _ rfl))
 rw [hsz] at hz₈ hT₈
 refine wpAny_pure ⟨_, rfl, ?_⟩
 show Q (.ref h₅.objs.size) _
 rw [hsz]
 exact hQ h₈ _ x y px py hz₈ (up _ _ Z.TOz hTO₅) (D₁.frame _ _ _ h1₅ fun b hb o e => up _ o (fun q => Z.f1.1 (q ▸ hb)) e) (D₂.frame _ _ _ h2₅ fun b hb o e => up _ o (fun q => Z.f2.1 (q ▸ hb)) e) hT₈ fun c o c1 c2 c3 c4 e => up c o c1 (hk₅ c o c1 c2 c3 c4 e)
theorem zipD_end {Q : Fin → Shared → Prop} (D₁ : Draws prog w A i1 fp1 n1 P1 S1) (D₂ : Draws prog w A i2 fp2 n2 P2 S2) (Z : ZA z TI TO i1 i2 fp1 fp2)
  (hz : IsZip s.heap z TI TO .none) (hTI : IsPair s.heap TI (.ref i1) (.ref i2)) (hTO : IsPair s.heap TO a b) (h1 : S1 k1 s.heap) (h2 : S2 k2 s.heap) (l : k1 = n1 ∨ (k1 < n1 ∧ k2 = n2))
  (hE : ∀ h' tk e, (∀ c o, c ≠ z → c ≠ TO → c ≠ i1 → c ≠ i2 → s.heap.get? c = some o → h'.get? c = some o) → (∃ o, h'.get? e = some o ∧ o.cls = .type "StopIteration") → E (.ref e) { s with heap := h', toks := tk }) :
  wpAny (model prog w) A (Builtin.«zip.__next__» ⟨[.ref z], []⟩) Q E s := by
 show wpAny _ _ (field (.ref z) 2 >>= _) _ _ _
 refine wpAny_bind (wpAny_field hz rfl (x := .bool false) rfl ?_)
 show wpAny _ _ (field (.ref z) 3 >>= _) _ _ _
 refine wpAny_bind (wpAny_field hz rfl (x := .ref TI) rfl ?_)
 refine wpAny_bind (wpAny_seqItems hTI rfl ?_)
 show wpAny _ _ (Builtin.SmallTypes.ownedTupleIsFree (.ref z) >>= _) _ _ _
 refine wpAny_bind ?_
 unfold Builtin.SmallTypes.ownedTupleIsFree
 refine wpAny_bind (wpAny_field hz rfl (x := .none) rfl (wpAny_pure ?_))
 simp only [if_true]
 refine wpAny_bind (wpAny_rule ?_)
 refine wpAny_bind (wpAny_field hz rfl (x := .ref TO) rfl ?_)
 refine wpAny_bind (wpAny_setField_rec hz (by simp) fun h₁ hz₁ hs₁ => ?_)
 replace hz₁ : IsZip h₁ z TI TO .ellipsis := hz₁
 refine wpAny_bind ?_
 simp only [List.zipIdx_cons, List.zipIdx_nil, List.forIn_cons, List.forIn_nil]
 refine wpAny_bind (wpAny_bind (wpAny_onRaise ?_))
 show wpAny _ _ (Builtin.SmallTypes.nextOf (.ref i1) >>= _) _ _ _
 rcases l with rfl | ⟨l1, rfl⟩
 ·refine wpAny_bind (D₁.done _ _ _ (Draws.but D₁ h1 Z.f1.1 hs₁) fun h₂ e hs₂ he => ?_)
  refine el12 he fun oe hoe hce => ?_
  have hz₂ : IsZip h₂ z TI TO .ellipsis := hs₂ _ _ Z.i1z.symm hz₁
  have hez : e ≠ z := fun x => by subst x; rw [hz₂] at hoe; (injection hoe with y0; subst y0); simp at hce
  refine wpAny_setField_rec hz₂ (by simp) fun h₃ _ hs₃ => hE h₃ _ e (fun c o c1 _ c3 _ x => hs₃.extBut _ _ c1 (hs₂ _ _ c3 (hs₁.extBut _ _ c1 x))) ⟨oe, hs₃.extBut _ _ hez hoe, hce⟩
 ·refine wpAny_bind (D₁.item k1 _ _ _ l1 (Draws.but D₁ h1 Z.f1.1 hs₁) fun x h₂ tk₂ px h1₂ hs₂ => wpAny_pure ?_)
  have hTO₂ : IsPair h₂ TO a b := hs₂.extBut _ _ Z.TOi1 (hs₁.extBut _ _ Z.TOz hTO)
  refine wpAny_bind (wpAny_seqItems hTO₂ rfl ?_)
  refine wpAny_bind (wpAny_updateSeq_pair hTO₂ fun h₃ hTO₃ hs₃ => ?_)
  refine wpAny_bind (wpAny_letGo (wpAny_pure ?_))
  refine wpAny_bind (wpAny_bind (wpAny_onRaise ?_))
  show wpAny _ _ (Builtin.SmallTypes.nextOf (.ref i2) >>= _) _ _ _
  refine wpAny_bind (D₂.done _ _ _ (Draws.but D₂ (Draws.but D₂ (Draws.but D₂ h2 Z.f2.1 hs₁) Z.f2.2.2 hs₂) Z.f2.2.1 hs₃) fun h₄ e hs₄ he => ?_)
  refine el12 he fun oe hoe hce => ?_
  have hz₄ : IsZip h₄ z TI TO .ellipsis := hs₄ _ _ Z.i2z.symm (hs₃.extBut _ _ Z.TOz.symm (hs₂.extBut _ _ Z.i1z.symm hz₁))
  have hez : e ≠ z := fun x => by subst x; rw [hz₄] at hoe; (injection hoe with y0; subst y0); simp at hce
  refine wpAny_setField_rec hz₄ (by simp) fun h₅ _ hs₅ => hE h₅ _ e (fun c o c1 c2 c3 c4 x => hs₅.extBut _ _ c1 (hs₄ _ _ c4 (hs₃.extBut _ _ c2 (hs₂.extBut _ _ c3 (hs₁.extBut _ _ c1 x))))) ⟨oe, hs₅.extBut _ _ hez hoe, hce⟩
theorem zipD_walks (z TI TO : Addr) (D₁ : Draws prog w A.in1 i1 fp1 n1 P1 S1) (D₂ : Draws prog w A.in1 i2 fp2 n2 P2 S2) (Z : ZA z TI TO i1 i2 fp1 fp2) :
  WalksT prog w A z (z :: TI :: TO :: i1 :: i2 :: (fp1 ++ fp2)) [z, TO, i1, i2] (min n1 n2) (fun i vals => ∃ x y, P1 i x ∧ P2 i y ∧ vals = #[x, y])
   (fun i h => IsZip h z TI TO .none ∧ IsPair h TI (.ref i1) (.ref i2) ∧ (∃ a b, IsPair h TO a b) ∧ S1 i h ∧ S2 i h)
   (fun i T h => IsZip h z TI TO (rawInt T) ∧ IsPair h TI (.ref i1) (.ref i2) ∧ (∃ a b, IsPair h TO a b) ∧ S1 (i + 1) h ∧ S2 (i + 1) h ∧ T ≠ z ∧ T ≠ TO ∧ T ≠ i1 ∧ T ≠ i2) where
 sub := fun c hc => by simp at hc ⊢; rcases hc with rfl | rfl | rfl | rfl <;> simp
 frame := fun i h h' hst hk => by
  refine el05 hst fun hz hTI y0 => ?_; refine el21 y0 fun a b hTO => ?_; intro h1 h2
  exact ⟨hk z (by simp) _ hz, hk TI (by simp) _ hTI, ⟨a, b, hk TO (by simp) _ hTO⟩, D₁.frame _ _ _ h1 fun b hb o e => hk b (by simp [hb]) o e, D₂.frame _ _ _ h2 fun b hb o e => hk b (by simp [hb]) o e⟩
 item := fun i s Q E hi hst hQ => by
  refine el05 hst fun hz hTI y0 => ?_; refine el21 y0 fun a b hTO => ?_; intro h1 h2
  have hT : s.TypeIs (.ref z) "zip" := ⟨_, hz, rfl⟩
  have lt : ∀ {c o}, s.heap.get? c = some o → s.heap.objs.size ≠ c := fun e => Nat.ne_of_gt (Heap.lt_size e)
  unfold pyNext
  refine wpAny_bind (wpAny_attempt (wpAny_callSpecial?_slot (name := Str.ofString "__next__") hT F.slot_zip_next
   (wpAny_call_entry F.slot_zip_next hT F.entry_zip_next
    (zipD_item D₁ D₂ Z hz hTI hTO h1 h2 (Nat.lt_of_lt_of_le hi (Nat.min_le_left ..)) (Nat.lt_of_lt_of_le hi (Nat.min_le_right ..)) fun h' tk x y px py a1 a2 a3 a4 a5 hk => wpAny_pure ?_) (F.args_zip_next_1 _))))
  exact hQ s.heap.objs.size #[x, y] h' tk ⟨_, _, px, py, rfl⟩ (Nat.le_refl _) ⟨_, a5, rfl, _, rfl⟩
   ⟨a1, hk _ _ Z.TIz Z.TITO Z.TIi1 Z.TIi2 hTI, ⟨_, _, a2⟩, a3, a4, lt hz, lt hTO, (by refine el11 (D₁.live _ _ h1) fun _ e => ?_; exact lt e), (by refine el11 (D₂.live _ _ h2) fun _ e => ?_; exact lt e)⟩
   fun c o hc e => hk c o (fun x => hc (by simp [x])) (fun x => hc (by simp [x])) (fun x => hc (by simp [x])) (fun x => hc (by simp [x])) e
 go := fun elts k pos i T s Q E hm hQ => by
  refine el06 hm fun hz hTI y0 => ?_; refine el21 y0 fun a b hTO => ?_; intro h1 h2 _
  refine wpAny_letOwnedTupleGo_zip hz fun h' hz' hs' => hQ h' ⟨hz', hs'.extBut _ _ Z.TIz hTI, ⟨a, b, hs'.extBut _ _ Z.TOz hTO⟩, Draws.but D₁ h1 Z.f1.1 hs', Draws.but D₂ h2 Z.f2.1 hs'⟩ fun c o hc e => hs'.extBut _ _ (fun x => hc (by simp [x])) e
 apart := fun i T h hm hT => by
  obtain ⟨_, _, _, _, _, t1, t2, t3, t4⟩ := hm
  simp at hT
  rcases hT with rfl | rfl | rfl | rfl
  ·exact t1 rfl
  ·exact t2 rfl
  ·exact t3 rfl
  ·exact t4 rfl
 done := fun s Q E hst hQ => by
  refine el05 hst fun hz hTI y0 => ?_; refine el21 y0 fun a b hTO => ?_; intro h1 h2
  have hT : s.TypeIs (.ref z) "zip" := ⟨_, hz, rfl⟩
  have hend : min n1 n2 = n1 ∨ (min n1 n2 < n1 ∧ min n1 n2 = n2) := by omega
  unfold pyNext
  refine wpAny_bind (wpAny_attempt (wpAny_callSpecial?_slot (name := Str.ofString "__next__") hT F.slot_zip_next
   (wpAny_call_entry F.slot_zip_next hT F.entry_zip_next (zipD_end D₁ D₂ Z hz hTI hTO h1 h2 hend fun h' tk e hk he => ?_) (F.args_zip_next_1 _))))
  refine el12 he fun o ho hc => ?_
  refine wpAny_bind (wpAny_isInstance (T := "StopIteration") (b := true) ⟨o, ho, hc⟩ isSubtype_stop ?_)
  exact wpAny_pure (hQ _ tk fun c o hc e =>
   hk c o (fun x => hc (by simp [x])) (fun x => hc (by simp [x])) (fun x => hc (by simp [x])) (fun x => hc (by simp [x])) e)
 self := fun i s Q E hst hQ => wpAny_pyIter_zip hst.1 hQ
end
end
section
noncomputable abbrev itL (l : Addr) : Obj := { cls := .type "list_iterator", data := .fields #[.ref l, .int 0 0] }
noncomputable abbrev itS (x : Str) (t : Tok) : Obj := { cls := .type (strIterType x), data := .fields #[.str x t, .int 0 0] }
noncomputable abbrev zp1 (h : Heap) (o1 : Obj) : Heap := h.push o1
noncomputable abbrev zp2 (h : Heap) (o1 o2 : Obj) : Heap := (zp1 h o1).push o2
noncomputable abbrev zp3 (h : Heap) (o1 o2 : Obj) : Heap := (zp2 h o1 o2).push { cls := .type "tuple", data := .seq #[.ref h.objs.size, .ref (zp1 h o1).objs.size] }
noncomputable abbrev zp4 (h : Heap) (o1 o2 : Obj) : Heap := (zp3 h o1 o2).push { cls := .type "tuple", data := .seq #[.none, .none] }
noncomputable abbrev zp5 (h : Heap) (o1 o2 : Obj) : Heap := (zp4 h o1 o2).push { cls := .type "zip", data := .fields #[.none, .bool false, .bool false, .ref (zp2 h o1 o2).objs.size, .ref (zp3 h o1 o2).objs.size] }
structure Its (h₀ : Heap) (v : Value) (o : Obj) : Prop where
 go : ∀ {prog : Program} {w : World} {A : Around} {s : Shared} {E : Value → Shared → Prop} {Q : Value → Shared → Prop}, (∀ b o, h₀.get? b = some o → s.heap.get? b = some o) → Q (.ref s.heap.objs.size) { s with heap := s.heap.push o } → wpAny (model prog w) A (pyIter v) Q E s
set_option maxHeartbeats 2000000 in
theorem meets_zip {h₀ : Heap} {v₁ v₂ : Value} {o₁ o₂ : Obj} (m₁ : Its h₀ v₁ o₁) (m₂ : Its h₀ v₂ o₂) :
  Meets (Builtin.«zip.__new__» ⟨[.type "zip", v₁, v₂], []⟩) (fun _ R s => (∀ b o, h₀.get? b = some o → s.heap.get? b = some o) ∧ R (.ok (.ret (.ref (zp4 s.heap o₁ o₂).objs.size))) { s with heap := zp5 s.heap o₁ o₂ }) :=
 .of_wp fun prog w A R s h => by
  obtain ⟨hp, g, d, tk, os⟩ := s; refine el02 h fun hk h => ?_
  have hsub := sub_zip
  have hk1 : ∀ b o, h₀.get? b = some o → (hp.push o₁).get? b = some o := fun b o e => Heap.get?_push_of_some _ (hk b o e)
  wp_walk using (m₁.go hk), (m₂.go hk1)
  exact ⟨_, rfl, h⟩
section
variable {prog : Program} {w : World} {A : Around} {E : Value → Shared → Prop} {s : Shared}
structure Zipped (h h' : Heap) (o1 o2 : Obj) : Prop where
 z : IsZip h' (h.objs.size + 4) (h.objs.size + 2) (h.objs.size + 3) .none
 ti : IsPair h' (h.objs.size + 2) (.ref h.objs.size) (.ref (h.objs.size + 1))
 to : IsPair h' (h.objs.size + 3) .none .none
 i1 : h'.get? h.objs.size = some o1
 i2 : h'.get? (h.objs.size + 1) = some o2
 up : ∀ c o, h.get? c = some o → h'.get? c = some o
theorem zipped_is (h : Heap) (o1 o2 : Obj) (f1 : o1.isFreed = false) (f2 : o2.isFreed = false) : Zipped h (zp5 h o1 o2) o1 o2 ∧ (zp4 h o1 o2).objs.size = h.objs.size + 4 := by
 have z1 : (zp1 h o1).objs.size = h.objs.size + 1 := Heap.size_push ..
 have z2 : (zp2 h o1 o2).objs.size = h.objs.size + 2 := by rw [Heap.size_push, z1]
 have z3 : (zp3 h o1 o2).objs.size = h.objs.size + 3 := by rw [Heap.size_push, z2]
 have z4 : (zp4 h o1 o2).objs.size = h.objs.size + 4 := by rw [Heap.size_push, z3]
 have g5 : (zp5 h o1 o2).get? (zp4 h o1 o2).objs.size = some _ := Heap.get?_push_size _ rfl
 have g4 : (zp5 h o1 o2).get? (zp3 h o1 o2).objs.size = some _ := Heap.get?_push_of_some _ (Heap.get?_push_size _ rfl)
 have g3 : (zp5 h o1 o2).get? (zp2 h o1 o2).objs.size = some _ := Heap.get?_push_of_some _ (Heap.get?_push_of_some _ (Heap.get?_push_size _ rfl))
 have g2 : (zp5 h o1 o2).get? (zp1 h o1).objs.size = some _ := Heap.get?_push_of_some _ (Heap.get?_push_of_some _ (Heap.get?_push_of_some _ (Heap.get?_push_size _ f2)))
 have g1 : (zp5 h o1 o2).get? h.objs.size = some _ := Heap.get?_push_of_some _ (Heap.get?_push_of_some _ (Heap.get?_push_of_some _ (Heap.get?_push_of_some _ (Heap.get?_push_size _ f1))))
 rw [z2, z3, z4] at g5
 rw [z1, z2] at g3
 rw [z3] at g4
 rw [z1] at g2
 exact ⟨⟨g5, g3, g4, g1, g2, fun c o x => Heap.get?_push_of_some _ (Heap.get?_push_of_some _ (Heap.get?_push_of_some _ (Heap.get?_push_of_some _ (Heap.get?_push_of_some _ x))))⟩, z4⟩
theorem call_zip {v₁ v₂ : Value} {o₁ o₂ : Obj} {Q : Value → Shared → Prop} (m₁ : Its s.heap v₁ o₁) (m₂ : Its s.heap v₂ o₂) (f₁ : o₁.isFreed = false) (f₂ : o₂.isFreed = false)
  (h : ∀ h', Zipped s.heap h' o₁ o₂ → Q (.ref (s.heap.objs.size + 4)) { s with heap := h' }) : wpAny (model prog w) A (call (.type "zip") [v₁, v₂]) Q E s := by
 refine callType_new F.called_zip (by decide) (F.typeCall_zip_2 _ _) (F.newCall_zip_2 _ _) (fun obj => F.args_object_init_3 obj _ _) F.entry_zip_new
  (meets_zip m₁ m₂) ⟨fun _ _ e => e, ?_⟩
 refine el02 (zipped_is s.heap o₁ o₂ f₁ f₂) fun Z z4 => ?_
 show _ ∧ _
 rw [z4]
 exact ⟨⟨_, Z.z, rfl⟩, h _ Z⟩
theorem draws_str (hh : A.handled = none) (it : Addr) (l : List Nat) (t : Tok) : Draws prog w A it [it] (tx l).cps.size (fun i v => ∃ c u, (tx l).cps[i]? = some c ∧ v = .str ⟨#[c]⟩ u) (fun i h => h.IsStrIter it (strIterType (tx l)) (tx l) t i) := by
 unfold strIterType
 split
 ·exact Draws.strAscii (A := A) hh _ _ _
 ·exact Draws.strWide (A := A) hh _ _ _
end
structure ZSide (X : List Addr) (h : Heap) (v : Value) (ds : List D) (o : Obj) (fx : List Addr) (P : Nat → Value → Prop) (S : Addr → Nat → Heap → Prop) (R : List Addr → Heap → Prop) : Prop where
 its : Its h v o
 live : o.isFreed = false
 draws : ∀ (prog : Program) (w : World) (A : Around) (it : Addr), A.handled = none → it ∉ fx → Draws prog w A it (it :: fx) ds.length P (S it)
 new : ∀ it h', h'.get? it = some o → (∀ b o, h.get? b = some o → h'.get? b = some o) → S it 0 h'
 here : R X h
 mono : ∀ X h h', R X h → (∀ b ∈ fx, ∀ o, h.get? b = some o → h'.get? b = some o) → Same X h h' → R X h'
 lift : ∀ X h a, R X h → h.get? a = none → R (a :: X) h
 val : ∀ X i d x h, ds[i]? = some d → P i x → R X h → Rep X h x d
 old : ∀ b ∈ fx, b < h.objs.size ∧ b ∉ X ∧ ∃ o, h.get? b = some o ∧ look o
noncomputable def Sides (d : D) (ds : List D) : Prop := ∀ X h v, Rep X h v d → ∃ o fx P S R, ZSide X h v ds o fx P S R
theorem side_list {ds : List D} : Sides (.list ds) ds := fun X h v r => by
 rcases (Rep.inv r : RList X h ds v) with @⟨l, us, hl, hf, ra⟩
 refine ⟨itL l, [l], fun i v => us.toArray[i]? = some v, fun it i h => h.IsListIter it l i ∧ h.IsList l us.toArray, fun X h => PL h l us ∧ RepAll X h us ds, ⟨fun hk hQ => wpAny_pyIter_list (hl.isList.at fun o e => hk l o e) hQ⟩, rfl, fun prog w A it hh hn => ?_, fun it h' e k => ⟨⟨_, e, rfl, rfl⟩, hl.isList.at fun o e => k l o e⟩, ⟨hl, ra⟩, fun X h h' r hk hs => ⟨r.1.at fun o e => hk l (List.mem_singleton.mpr rfl) o e, r.2.mono hs⟩, fun X h a r ha => ⟨r.1, r.2.new ha⟩, fun X i d x h hd hP r => ?_, fun b hb => ?_⟩
 ·have e : us.toArray.size = ds.length := by rw [List.size_toArray, ra.length]
  rw [← e]
  exact Draws.list hh it l (fun q => hn (List.mem_singleton.mpr q.symm)) us.toArray
 ·refine el12 (r.2.get hd) fun x' hx' rx => ?_
  have e1 : us[i]? = some x := by simpa using hP
  rw [e1] at hx'; (injection hx' with y0; subst y0); exact rx
 ·rw [List.mem_singleton.mp hb]
  refine el11 hl fun n e => ?_
  exact ⟨Heap.lt_size e, hf, _, e, .inl ⟨_, _, rfl⟩⟩
theorem side_str {l : List Nat} : Sides (.str l) (signs l) := fun X h v r => by
 rcases (Rep.inv r : RStr l v) with ⟨t⟩
 refine ⟨itS (tx l) t, [], fun i v => ∃ c u, (tx l).cps[i]? = some c ∧ v = .str ⟨#[c]⟩ u, fun it i h => h.IsStrIter it (strIterType (tx l)) (tx l) t i, fun _ _ => True, ⟨fun hk hQ => wpAny_pyIter_strU hQ⟩, rfl, fun prog w A it hh _ => ?_, fun it h' e k => ⟨_, e, rfl, rfl⟩, trivial, fun _ _ _ _ _ _ => trivial, fun _ _ _ _ _ => trivial, fun X i d x h hd hP _ => ?_, fun b hb => (nomatch hb)⟩
 ·have e : (tx l).cps.size = (signs l).length := by simp [signs]
  rw [← e]
  exact draws_str hh it l t
 ·refine el22 hP fun c u hc y0 => ?_; subst y0
  have hc' : l[i]? = some c := by simpa using hc
  rw [signs, List.getElem?_map, hc'] at hd
  (injection hd with y0; subst y0); exact .str [c] u
theorem off_new (N a : Nat) (h : a < N) : a ∉ [N + 4, N + 3, N, N + 1] := by simp; omega
theorem za_new (N : Nat) {f₁ f₂ : List Addr} (h₁ : ∀ b ∈ f₁, b < N) (h₂ : ∀ b ∈ f₂, b < N) : ZA (N + 4) (N + 2) (N + 3) N (N + 1) (N :: f₁) ((N + 1) :: f₂) := by
 have ne : ∀ a b : Nat, a ≠ b → (a : Addr) ≠ b := fun _ _ h => h
 have no : ∀ {f : List Addr} (k a : Nat), (∀ b ∈ f, b < N) → N ≤ a → a ≠ k → (a : Addr) ∉ k :: f := fun k a h ha hk q => (List.mem_cons.mp q).elim hk fun q => absurd (h _ q) (Nat.not_lt.mpr ha)
 exact ⟨ne _ _ (by omega), ne _ _ (by omega), ne _ _ (by omega), ne _ _ (by omega), ne _ _ (by omega), ne _ _ (by omega), ne _ _ (by omega), ne _ _ (by omega), ne _ _ (by omega), ne _ _ (by omega),
  ⟨no _ _ h₁ (by omega) (by omega), no _ _ h₁ (by omega) (by omega), no _ _ h₁ (by omega) (by omega)⟩, ⟨no _ _ h₂ (by omega) (by omega), no _ _ h₂ (by omega) (by omega), no _ _ h₂ (by omega) (by omega)⟩⟩
theorem mk_zip {elts : List Expr} {k : Nat} {tp : Pos} {d₁ d₂ : D} {as bs : List D} (z₁ : Sides d₁ as) (z₂ : Sides d₂ bs) : MkIter "zip" [d₁, d₂] (.Tuple elts k tp) (zipped as bs) := .mk fun prog w X A s Q E vs hh hX ra hQ => by
 refine el23 ra.two fun _ _ y0 => ?_; subst y0; intro r r'
 refine el51 (z₁ X s.heap _ r) fun o₁ f₁ P₁ S₁ R₁ Y₁ => ?_
 refine el51 (z₂ X s.heap _ r') fun o₂ f₂ P₂ S₂ R₂ Y₂ => ?_
 refine call_zip Y₁.its Y₂.its Y₁.live Y₂.live fun h' Z => wpAny_pyIter_zip Z.z ?_
 have hz := Z.z
 have hTI := Z.ti
 have hTO := Z.to
 have hi1 := Z.i1
 have hi2 := Z.i2
 have hk := Z.up
 clear Z
 have old₁ : ∀ b ∈ f₁, b < s.heap.objs.size := fun b hb => (Y₁.old b hb).1
 have old₂ : ∀ b ∈ f₂, b < s.heap.objs.size := fun b hb => (Y₂.old b hb).1
 generalize hN : s.heap.objs.size = N at *
 have hnew : ∀ a, N ≤ a → s.heap.get? a = none := fun a h => none_at (hN ▸ h)
 have ZZ := za_new N old₁ old₂
 refine hQ _ ((N + 4) :: (N + 2) :: (N + 3) :: N :: (N + 1) :: ((N :: f₁) ++ ((N + 1) :: f₂))) [N + 4, N + 3, N, N + 1] (fun X i h => (IsZip h (N + 4) (N + 2) (N + 3) .none ∧ IsPair h (N + 2) (.ref N) (.ref (N + 1)) ∧ (∃ a b, IsPair h (N + 3) a b) ∧ S₁ N i h ∧ S₂ (N + 1) i h) ∧ (R₁ X h ∧ R₂ X h)) h' _ (fun A' hA' => ?_) ?_ hk ?_ ?_
 ·have D₁ := Y₁.draws prog w A'.in1 N hA' fun q => Nat.lt_irrefl _ (old₁ _ q)
  have D₂ := Y₂.draws prog w A'.in1 (N + 1) hA' fun q => absurd (old₂ _ q) (by omega)
  refine Run.of_walksT (St' := fun X h => R₁ X h ∧ R₂ X h) (zipD_walks (N + 4) (N + 2) (N + 3) D₁ D₂ ZZ) (zipped_length _ _).symm (fun i h st b hb => ?_) (fun X h h' st hk hs => ⟨Y₁.mono X h h' st.1 (fun b hb o e => hk b (by simp [hb]) o e) hs, Y₂.mono X h h' st.2 (fun b hb o e => hk b (by simp [hb]) o e) hs⟩) (fun X h a st ha => ⟨Y₁.lift X h a st.1 ha, Y₂.lift X h a st.2 ha⟩) (fun X i d vals h hd hP st => ?_) fun X h h' hI st hk => ?_
  ·refine el05 st fun e1 e2 y0 => ?_; refine el21 y0 fun a b' e3 => ?_; intro e4 e5
   simp only [List.mem_cons, List.not_mem_nil, or_false] at hb
   rcases hb with rfl | rfl | rfl | rfl
   ·exact ⟨_, e1⟩
   ·exact ⟨_, e3⟩
   ·exact D₁.live _ _ e4
   ·exact D₂.live _ _ e5
  ·refine el23 (zipped_get hd) fun a b ha hb y0 => ?_; subst y0
   refine el23 hP fun x y hx hy y0 => ?_; subst y0
   exact ⟨_, rfl, .cons (Y₁.val X i a x h ha hx st.1) (.cons (Y₂.val X i b y h hb hy st.2) .nil)⟩
  ·have hs : Same X h h' := fun b o hb _ e => hk b o (fun q => hb (hI b q)) e
   exact ⟨Y₁.mono X h h' st.1 (fun b hb o e => hk b o (off_new N b (old₁ b hb)) e) hs, Y₂.mono X h h' st.2 (fun b hb o e => hk b o (off_new N b (old₂ b hb)) e) hs⟩
 ·have lift4 : ∀ {R : List Addr → Heap → Prop}, (∀ X h a, R X h → h.get? a = none → R (a :: X) h) → R X s.heap → R ([N + 4, N + 3, N, N + 1] ++ X) s.heap := fun l r =>
   l _ _ _ (l _ _ _ (l _ _ _ (l _ _ _ r (hnew (N + 1) (by omega))) (hnew N (by omega))) (hnew (N + 3) (by omega))) (hnew (N + 4) (by omega))
  exact ⟨⟨hz, hTI, ⟨_, _, hTO⟩, Y₁.new _ _ hi1 hk, Y₂.new _ _ hi2 hk⟩, ⟨Y₁.mono _ _ _ (lift4 Y₁.lift Y₁.here) (fun b _ o e => hk b o e) (.of_keeps hk), Y₂.mono _ _ _ (lift4 Y₂.lift Y₂.here) (fun b _ o e => hk b o e) (.of_keeps hk)⟩⟩
 ·intro b hb
  simp only [List.mem_cons, List.not_mem_nil, or_false] at hb
  rcases hb with rfl | rfl | rfl | rfl
  ·exact ⟨hnew _ (by omega), _, hz⟩
  ·exact ⟨hnew _ (by omega), _, hTO⟩
  ·exact ⟨hnew _ (by omega), _, hi1⟩
  ·exact ⟨hnew _ (by omega), _, hi2⟩
 ·intro b hb
  simp only [List.mem_cons, List.mem_append] at hb
  have own4 : ∀ {f : List Addr}, (∀ b ∈ f, b < N ∧ b ∉ X ∧ ∃ o, s.heap.get? b = some o ∧ look o) → b ∈ f → b ∉ X ∧ ∃ o, h'.get? b = some o ∧ look o := fun hf h => let ⟨_, h1, o, e, l⟩ := hf b h; ⟨h1, o, hk b o e, l⟩
  rcases hb with rfl | rfl | rfl | rfl | rfl | (rfl | hb) | (rfl | hb)
  ·exact .inl (by simp)
  ·refine .inr ⟨fun q => ?_, _, hTI, .inl ⟨_, _, rfl⟩⟩
   refine el11 (hX _ q) fun o e => ?_
   rw [hnew _ (by omega)] at e; injection e
  ·exact .inl (by simp)
  ·exact .inl (by simp)
  ·exact .inl (by simp)
  ·exact .inl (by simp)
  ·exact .inr (own4 (hN ▸ Y₁.old) hb)
  ·exact .inl (by simp)
  ·exact .inr (own4 (hN ▸ Y₂.old) hb)
end
section
theorem strs_key (ls : List (List Nat)) (h : ∀ l ∈ ls, l.length ≤ 1000 ∧ ∀ c ∈ l, c < 0x110000) : PyData.canLayAll0 (ls.map fun l => .str (tx l)) = true ∧ PyData.depthAll (ls.map fun l => .str (tx l)) = 0 ∧ PyData.weightAll (ls.map fun l => .str (tx l)) ≤ ls.length * 1001 := by
 induction ls with
 | nil => exact ⟨by simp [PyData.canLayAll0], by simp [PyData.depthAll], by simp [PyData.weightAll]⟩
 | cons a r ih =>
  refine el03 (ih fun i hi => h i (List.mem_cons_of_mem _ hi)) fun h1 h2 h3 => ?_
  refine el02 (h a (List.mem_cons_self ..)) fun ha hc => ?_
  have hok : PyData.strOk (tx a) = true := by unfold PyData.strOk; simpa using hc
  refine ⟨by simp [PyData.canLayAll0, PyData.canLay0, h1, hok], by simp [PyData.depthAll, PyData.depth, h2], ?_⟩
  rw [List.map_cons, PyData.weightAll, PyData.weight, List.length_cons, Nat.succ_mul]
  have : (tx a).cps.size = a.length := by simp
  omega
section
variable {G : Gd} {n : Nat} {env : Env} {ρ : Loc} {ow : Own} {bs : List (List Stmt)} {o : Out}
end
end
section
theorem mut_after {env : Env} {ow ow' ow'' : Own} {s s₁ : Shared} (old : ∀ b, s₁.heap.get? b = none → s.heap.get? b = none) (hm : ∀ b, Mut env ow' b → Mut env ow b ∨ s.heap.get? b = none) (hm' : ∀ b, Mut env ow'' b → Mut env ow' b ∨ s₁.heap.get? b = none) : ∀ b, Mut env ow'' b → Mut env ow b ∨ s.heap.get? b = none := fun b q => (hm' b q).elim (hm b) fun z => .inr (old b z)
theorem Rep.after {G : Gd} {env : Env} {X X' : List Addr} {ρ : Loc} {ow : Own} {s s₁ : Shared} (F : Fits G env X ρ ow s) (nx : NewX X X' s.heap) (t : Turn env ow s s₁) {v : Value} {d : D} (r : Rep X s.heap v d) : Rep X' s₁.heap v d :=
 (r.to nx.k).mono fun b o hb l e => t.heap b o (F.look_away (fun q => hb (nx.sub b q)) e l) e
section
variable {G : Gd} {n : Nat} {env : Env} {ρ : Loc} {ow : Own} {bs : List (List Stmt)} {o : Out}
theorem ex_augG {x : Str} {px pos : Pos} {op : Operator} {e : Expr} {rest : List Stmt} {d₁ : D} {R : D → Own → Prop} (hk : storable env x = true) (hc : (x == ("__classdict__" : Str)) = false) (hx : ρ.lookup x = some d₁) (he : EvG G n env ρ ow e R)
  (h : ∀ d₂ ow', R d₂ ow' → ∃ d, IncIs op d₁ d₂ d ∧ Ex G n env ((x, d) :: ρ) ow' (rest :: bs) o) : Ex G n env ρ ow ((.AugAssign (.Name x px) op e pos :: rest) :: bs) o := .mk <| fun X A s E R B F => by
 refine wpAny_execs_cons (wpAny_AugAssign_Name (load_var F hx hc fun v₁ r₁ => wpAny_mono (he.go X A s E R F) (fun v₂ s₁ q => ?_) fun _ _ y => y))
 obtain ⟨d₂, ow', X', r, nx, rep, F₁, t₁, hm⟩ := q
 refine el12 (h d₂ ow' r) fun d hi hn => ?_
 refine wpAny_mono (hi.go _ _ X' A s₁ E v₁ v₂ R.units F₁.live (r₁.after F nx t₁) rep) (fun v s₂ q => ?_) fun _ _ y => y
 exact store_any hk (F₁.keeps q.2) q.1 fun h' tk F' t' _ => hn.from R (nx.base B) F' (t₁.after (q.2.turn.trans t') hm) hm
theorem evG_tup2 {e₁ e₂ : Expr} {k : Nat} {pos : Pos} {R₁ : D → Own → Prop} {R : D → D → Own → Prop} (hs₁ : starless e₁ = true) (hs₂ : starless e₂ = true) (h₁ : EvG G n env ρ ow e₁ R₁)
  (h₂ : ∀ d₁ w, R₁ d₁ w → (∀ b ∈ keysOf ow, b ∈ keysOf w) ∧ EvG G n env ρ w e₂ (R d₁)) : EvG G n env ρ ow (.Tuple [e₁, e₂] k pos) fun d w => ∃ d₁ d₂, d = .tup [d₁, d₂] ∧ R d₁ d₂ w := .mk fun X A s E Rm F => by
 refine Tuple_ ?_
 rw [star_eq hs₁, star_eq hs₂]
 refine spliced_cons (wpAny_mono (h₁.go X A s E Rm F) (fun v₁ s₁ q => ?_) fun _ _ x => x)
 obtain ⟨d₁, w, X₁, r, nx, rep, F₁, t₁, hm⟩ := q
 refine el02 (h₂ d₁ w r) fun hk h₂ => ?_
 have old := t₁.there F₁ fun b q => q.imp id (.imp id (hk b))
 refine spliced_cons (wpAny_mono (h₂.go X₁ A s₁ E Rm F₁) (fun v₂ s₂ q => ?_) fun _ _ x => x)
 obtain ⟨d₂, w₂, X₂, r₂, nx₂, rep₂, F₂, t₂, hm₂⟩ := q
 refine spliced_nil (wpAny_newObj_type ?_ (show 2 ≤ sizeLine by decide))
 refine ⟨.tup [d₁, d₂], w₂, X₂, ⟨d₁, d₂, rfl, r₂⟩, nx.trans nx₂ old, .tup ⟨_, Heap.get?_push_size _ rfl, rfl, _, rfl⟩ F₂.live.new ?_, F₂.keeps (.push _ _ _), t₁.after (t₂.trans (Grow.push _ _ _).turn) hm, mut_after old hm hm₂⟩
 exact RepAll.keeps (.cons (rep.after F₁ nx₂ t₂) (.cons rep₂ .nil)) fun _ _ e => Heap.get?_push_of_some _ e
theorem ex_pair_swG {x y : Str} {px py tp pos : Pos} {k : Nat} {e : Expr} {rest : List Stmt} {R : D → D → Own → Prop} (hx : storable env x = true) (hy : storable env y = true) (hs : swapsWithSole [.Tuple [.Name x px, .Name y py] k tp] e pos.line env = pure false) (hw : swappedStores [.Tuple [.Name x px, .Name y py] k tp] e env = pure (some [x, y]))
  (he : EvG G n env ρ ow e fun d w => ∃ d₁ d₂, d = .tup [d₁, d₂] ∧ R d₁ d₂ w) (h : ∀ d₁ d₂ w, R d₁ d₂ w → (∀ b ∈ keysOf w, b ∈ keysOf ow ∨ b ∉ o.base) → Ex G n env ((x, d₁) :: (y, d₂) :: ρ) w (rest :: bs) o) : Ex G n env ρ ow ((.Assign [.Tuple [.Name x px, .Name y py] k tp] e pos :: rest) :: bs) o := .mk <| fun X A s E Rm B F => by
 refine wpAny_execs_cons (Assign_Tuple_swapped (wpAny_mono (he.go X A s E Rm F) (fun v s₁ q => ?_) fun _ _ x => x) hs hw)
 obtain ⟨_, w, X', ⟨d₁, d₂, rfl, r⟩, nx, rep, F₁, t₁, hm⟩ := q
 refine unp_tup.go _ _ X' A s₁ _ E v Rm.hd rep fun v₁ v₂ h' tk k r₁ r₂ => ?_
 have g : Grow s₁ { s₁ with heap := h', toks := tk } := .of k
 show wpAny _ _ (assignInOrder [bindName env y, bindName env x] [v₂, v₁]) _ _ _
 refine assignInOrder_cons (wpAny_bindName (store_any hy (F₁.keeps g) (r₂.keeps k) fun h₁ tk₁ F₂ T₁ k₁ => ?_))
 have r₁' : Rep X' h₁ v₁ d₁ := (r₁.keeps k).mono (T₁.sameX (F₁.keeps g))
 refine assignInOrder_cons (wpAny_bindName (store_any hx F₂ r₁' fun h₂ tk₂ F₃ T₂ k₂ => assignInOrder_nil ?_))
 exact (h d₁ d₂ w r (not_base F B F₁ hm)).from Rm (nx.base B) F₃ (t₁.after ((g.turn.trans T₁).trans T₂) hm) hm
theorem evG_new {X : List Addr} {s : Shared} {a : Addr} {new : OO} {h' : Heap} {tk : Nat} (F : Fits G env X ρ ow s) (ha : s.heap.get? a = none) (hk : ∀ b o, s.heap.get? b = some o → h'.get? b = some o) (hn : OOIs (a :: X) h' a new) :
  GQ G env X ρ ow (fun d ow' => ∃ a, a ∉ keysOf ow ∧ d = own a ∧ ow' = (a, new) :: ow) s (.ref a) { s with heap := h', toks := tk } :=
 ⟨own a, (a, new) :: ow, a :: X, ⟨a, fun q => (F.new_away ha).1 (.inr (.inr q)), rfl, rfl⟩, ⟨fun b q => List.mem_cons_of_mem _ q, fun b q => (List.mem_cons.mp q).elim (fun e => .inr (e ▸ ha)) .inl⟩, .raw _, F.newOwn ha hk hn, (Grow.of hk).turn, fun b q => by
  rcases q with q | q | q
  ·exact .inl (.inl q)
  ·exact .inl (.inr (.inl q))
  ·refine Or.elim (List.mem_cons.mp q) (fun q => ?_) (fun q => ?_)
   ·exact .inr (q ▸ ha)
   ·exact .inl (.inr (.inr q))⟩
theorem evG_grow {X : List Addr} {s s₁ s' : Shared} {v : Value} {R : D → Own → Prop} (g : Grow s s₁)
  (h : GQ G env X ρ ow R s₁ v s') :
  GQ G env X ρ ow R s v s' :=
 let ⟨d, w, X', r, nx, rep, F, t, hm⟩ := h
 ⟨d, w, X', r, ⟨nx.sub, fun a q => (nx.new a q).imp id (g.old a)⟩, rep, F, g.turn.trans t, fun b q => (hm b q).imp id (g.old b)⟩
theorem evG_newlist {pos : Pos} : EvG G n env ρ ow (.List [] pos) fun d w => ∃ a, a ∉ keysOf ow ∧ d = own a ∧ w = (a, .list []) :: ow := .mk fun X A s E Rm F =>
 List_ (show wpAny _ A (spliced (backTo pos (starEach [] env))) _ E s from spliced_nil (wpAny_newObj_type (evG_new F (none_at (Nat.le_refl _)) (fun b o e => Heap.get?_push_of_some _ e) ⟨[], ⟨_, Heap.get?_push_size _ rfl⟩, .nil⟩) (show (0:Nat) ≤ sizeLine from Nat.zero_le _)))
theorem Fits.size3 {X : List Addr} {s : Shared} (F : Fits G env X ρ ow s) : 1 < s.heap.objs.size := by
 refine el32 G.T.g fun ob _ _ e _ => ?_
 exact Nat.lt_trans (by decide) (Heap.lt_size (F.base _ _ e))
theorem ex_newlist {x : Str} {px lp pos : Pos} {rest : List Stmt} (hk : storable env x = true) (hs : swapsWith (.List [] lp) (some (.Name x px)) pos.line env = pure false) (h : ∀ a, a ∉ o.base → Ex G n env ((x, own a) :: ρ) ((a, .list []) :: ow) (rest :: bs) o) :
  Ex G n env ρ ow ((.Assign [.Name x px] (.List [] lp) pos :: rest) :: bs) o :=
 ex_assignG hk hs evG_newlist fun d w ⟨a, ha, e1, e2⟩ hb => by subst e1 e2; exact h a ((hb a (List.mem_cons_self ..)).resolve_left ha)
noncomputable def noTurns : List Nat → Option Nat := fun _ => none
theorem evG_newdict {pos : Pos} : EvG G n env ρ ow (.Dict [] [] pos) fun d w => ∃ a, a ∉ keysOf ow ∧ d = own a ∧ w = (a, .dict G.prog G.w noTurns 0) :: ow := .mk fun X A s E Rm F =>
 wpAny_Dict_empty (evG_new (tk := s.toks) F (none_at (Nat.le_refl _)) (fun b o e => Heap.get?_push_of_some _ e) ⟨[], .new _, F.size3, Nat.le_refl _, fun l => rfl⟩)
noncomputable def putTurn (f : List Nat → Option Nat) (l : List Nat) (v : Nat) : List Nat → Option Nat := fun x => if x = l then some v else f x
theorem tx_inj {a b : List Nat} (h : (⟨a.toArray⟩ : Str) = ⟨b.toArray⟩) : a = b := by
 injection h with h
 exact congrArg Array.toList h
theorem evG_dict1 {ke ve : Expr} {pos : Pos} {l : List Nat} {v : Nat} (hk : Ev G n env ρ ow ke (.str l)) (hv : Ev G n env ρ ow ve (.int (v : Int))) : EvG G n env ρ ow (.Dict [some ke] [ve] pos) fun d w => ∃ a, a ∉ keysOf ow ∧ d = own a ∧ w = (a, .dict G.prog G.w (putTurn noTurns l v) 1) :: ow := .mk fun X A s E Rm F => by
 have g0 : Grow s { s with heap := s.heap.push { cls := .type "dict", data := .dict #[] } } := .push _ _ _
 refine wpAny_Dict_walk (knd := strKind G.prog G.w) rfl rfl (List.cons_ne_nil _ _) (by decide : 1 ≤ 15) (pairTrees_cons_walk (wpAny_mono (hk.go X A _ E Rm (F.keeps g0)) (fun kv s₁ q₁ => ?_) fun _ _ x => x))
 refine wpAny_mono (hv.go X A s₁ E Rm ((F.keeps g0).keeps q₁.2)) (fun vv s₂ q₂ => pairTrees_nil_walk ?_) fun _ _ x => x
 obtain ⟨r₁, g₁⟩ := q₁
 obtain ⟨r₂, g₂⟩ := q₂
 refine Rep.eStr r₁ fun t => ?_
 refine Rep.eInt r₂ fun u => ?_
 have gg := g₁.trans g₂
 refine display_done_str rfl (List.nodup_cons.mpr ⟨fun h => (nomatch h), .nil⟩) ((Heap.DictOf.new s.heap).keep gg.heap) fun h' hm hs => ?_
 have hn := none_at (h := s.heap) (Nat.le_refl s.heap.objs.size)
 refine evG_grow (s₁ := { s₂ with heap := s.heap }) ?_ ?_
 ·exact ⟨⟨gg.same.os, gg.same.bare⟩, fun _ _ e => e⟩
 ·refine evG_new (s := { s₂ with heap := s.heap }) (F.keeps ?_) hn (fun b o e => (hs.2 b fun q => by rw [q, hn] at e; injection e).trans (gg.heap b o (Heap.get?_push_of_some _ e))) ⟨_, hm, F.size3, Nat.le_refl _, fun x => ?_⟩
  ·exact ⟨⟨gg.same.os, gg.same.bare⟩, fun _ _ e => e⟩
  ·unfold putTurn noTurns valueAt
   by_cases hx : x = l
   ·subst hx
    rw [if_pos rfl]
    exact ⟨u, by simp [strPairs]⟩
   ·rw [if_neg hx]
    have : ¬ (⟨l.toArray⟩ : Str) = ⟨x.toArray⟩ := fun e => hx (tx_inj e).symm
    simp [strPairs, this]
theorem ev_turn {e i : Expr} {pos : Pos} {a : Addr} {f : List Nat → Option Nat} {k v : Nat} {l : List Nat} (hi : isSlice i = false) (h₁ : Ev G n env ρ ow e (own a)) (h₂ : Ev G n env ρ ow i (.str l)) (hm : (a, OO.dict G.prog G.w f k) ∈ ow) (hf : f l = some v) : Ev G n env ρ ow (.Subscript e i pos) (.int (v : Int)) := .mk fun X A s E R F => by
 refine Subscript_ (wpAny_mono (h₁.go X A s E R F) (fun v₁ s₁ q₁ => ?_) fun _ _ x => x)
 refine wpAny_mono (h₂.go X A s₁ E R (F.keeps q₁.2)) (fun v₂ s₂ q₂ => ?_) fun _ _ x => x
 obtain ⟨r₁, g₁⟩ := q₁
 obtain ⟨r₂, g₂⟩ := q₂
 refine Rep.eRaw r₁ ?_
 refine Rep.eStr r₂ fun t => ?_
 refine el14 ((((F.keeps g₁).keeps g₂).owns _ hm).1) fun ps hd _ _ ht => ?_
 have ht := ht l
 rw [hf] at ht
 refine el11 ht fun u hv => ?_
 exact tail_any hd.typeIs slot_dict_getitem.lookup (wpAny_getItem_of (strKind_is _ _ _ _) hd.mapOf hv ⟨.int _ _, (g₁.trans g₂).trans (.toks _ _)⟩) (slice_eq hi)
theorem tst_noturn {e₁ e₂ : Expr} {pos : Pos} {a : Addr} {f : List Nat → Option Nat} {k : Nat} {l : List Nat} (hb : behindInMarks .NotIn e₂ = false) (h₁ : Ev G n env ρ ow e₁ (.str l)) (h₂ : Ev G n env ρ ow e₂ (own a)) (hm : (a, OO.dict G.prog G.w f k) ∈ ow) : Tst G n env ρ ow (.Compare e₁ [.NotIn] [e₂] pos) (f l).isNone := .mk fun X A s E R F => by
 refine wpAny_isTrue_Compare1 (wpAny_mono (h₁.go X A s E R F) (fun v₁ s₁ q₁ => ?_) fun _ _ x => x) hb
 refine wpAny_mono (h₂.go X A s₁ E R (F.keeps q₁.2)) (fun v₂ s₂ q₂ => ?_) fun _ _ x => x
 obtain ⟨r₁, g₁⟩ := q₁
 obtain ⟨r₂, g₂⟩ := q₂
 refine Rep.eStr r₁ fun t => ?_
 refine Rep.eRaw r₂ ?_
 refine el14 ((((F.keeps g₁).keeps g₂).owns _ hm).1) fun ps hd h1 _ ht => ?_
 refine wpAny_notIn_of (strKind_is _ _ _ _) (beq_eq_false_iff_ne.mpr (Nat.ne_of_gt h1)) hd.mapOf (wpAny_truthy_bool ⟨?_, (g₁.trans g₂).trans (.toks _ _)⟩)
 have ht := ht l
 cases hf : f l with
 | none => rw [hf] at ht; simp only [tx] at *; rw [ht]; rfl
 | some v => rw [hf] at ht; refine el11 ht fun u hv => ?_; simp only [tx] at *; rw [hv]; rfl
theorem ex_setturn {oe ie e : Expr} {p1 pos : Pos} {rest : List Stmt} {a : Addr} {f : List Nat → Option Nat} {k v : Nat} {l : List Nat} {ow' : Own} (hs : swapsWith e (some (.Subscript oe ie p1)) pos.line env = pure false) (he : Ev G n env ρ ow e (.int (v : Int))) (ho : Ev G n env ρ ow oe (own a)) (hi : Ev G n env ρ ow ie (.str l))
  (hf : f l = none) (hx : OSet a (.dict G.prog G.w f k) (.dict G.prog G.w (putTurn f l v) (k + 1)) ow ow') (hk : k ≤ 1000) (h : Ex G n env ρ ow' (rest :: bs) o) : Ex G n env ρ ow ((.Assign [.Subscript oe ie p1] e pos :: rest) :: bs) o := .mk fun X A s E R B F => by
 refine wpAny_execs_cons (wpAny_Assign_Subscript (wpAny_mono (he.go X A s E R F) (fun v₀ s₀ q₀ => ?_) fun _ _ x => x) hs)
 obtain ⟨r₀, g₀⟩ := q₀
 have F₀ := F.keeps g₀
 refine wpAny_mono (ho.go X A s₀ E R F₀) (fun v₁ s₁ q₁ => ?_) fun _ _ x => x
 obtain ⟨r₁, g₁⟩ := q₁
 refine wpAny_mono (hi.go X A s₁ E R (F₀.keeps g₁)) (fun v₂ s₂ q₂ => ?_) fun _ _ x => x
 obtain ⟨r₂, g₂⟩ := q₂
 refine Rep.eInt r₀ fun u => ?_
 refine Rep.eRaw r₁ ?_
 refine Rep.eStr r₂ fun t => ?_
 have F₂ := (F₀.keeps g₁).keeps g₂
 refine el14 ((F₂.owns _ hx.mem).1) fun ps hd h1 hl ht => ?_
 have htl := ht l
 rw [hf] at htl
 refine wpAny_setItem_pairs (strKind_is _ _ _ _) hd (fun h' hm hs' => ?_) (small (by omega))
 have hno : ps.any (fun kv => kv.1 = (⟨l.toArray⟩ : Str)) = false := by
  have : ps.find? (fun kv => decide (kv.1 = (⟨l.toArray⟩ : Str))) = none := by simpa [valueAt] using htl
  rw [List.any_eq_false]; exact List.find?_eq_none.mp this
 have hst : stored ps ⟨l.toArray⟩ (.int (v : Int) u) = ps ++ [(⟨l.toArray⟩, .int (v : Int) u)] := by unfold stored; rw [hno]; rfl
 rw [hst] at hm
 refine h.from R B (F₂.setOwn (tk := s₂.toks + 1) hx hs' ⟨_, hm, h1, by rw [List.length_append]; exact Nat.succ_le_succ hl, fun x => ?_⟩) (((g₀.trans g₁).trans g₂).turn.trans (.but (t := s₂.toks + 1) hs' (.inr (.inr (List.mem_map.mpr ⟨_, hx.mem, rfl⟩))))) fun b q => .inl (mut_same hx.keys q)
 have htx := ht x
 unfold putTurn
 by_cases hxl : x = l
 ·subst hxl
  rw [if_pos rfl]
  refine ⟨u, ?_⟩
  unfold valueAt at htl ⊢
  rw [List.find?_append]
  have : ps.find? (fun kv => decide (kv.1 = (⟨x.toArray⟩ : Str))) = none := by simpa using htl
  rw [this]; simp
 ·rw [if_neg hxl]
  have hne : ¬ (⟨l.toArray⟩ : Str) = ⟨x.toArray⟩ := fun e => hxl (tx_inj e).symm
  have : valueAt (ps ++ [((⟨l.toArray⟩ : Str), Value.int (v : Int) u)]) ⟨x.toArray⟩ = valueAt ps ⟨x.toArray⟩ := by
   unfold valueAt
   rw [List.find?_append]
   simp [hne]
  rw [this]; exact htx
end
section
variable {G : Gd} {n : Nat} {env : Env} {ρ : Loc} {ow : Own} {bs : List (List Stmt)} {o : Out}
theorem signs_rep {X : List Addr} {h : Heap} {l : List Nat} {vs : List Value} (hl : vs.length = l.length) (hv : ∀ j v, vs[j]? = some v → SignAt (tx l) j v) : RepAll X h vs (signs l) := by
 suffices key : ∀ (m l' : List Nat) (vs : List Value), m ++ l' = l → vs.length = l'.length → (∀ j v, vs[j]? = some v → SignAt (tx l) (m.length + j) v) → RepAll X h vs (signs l') from key [] l vs rfl hl fun j v e => by rw [List.length_nil, Nat.zero_add]; exact hv j v e
 intro m l'
 induction l' generalizing m with
 | nil => intro vs _ h1 _; rw [List.length_eq_zero_iff.mp h1]; exact .nil
 | cons c l' ih =>
  intro vs e h1 h2
  cases vs with
  | nil => injection h1
  | cons v vs =>
   refine el22 (h2 0 v rfl) fun c' u hc y0 => ?_; subst y0
   have : l[m.length + 0]? = some c' := by simpa using hc
   rw [← e, Nat.add_zero, List.getElem?_append_right (Nat.le_refl _), Nat.sub_self] at this
   (injection this with y0; subst y0)
   refine .cons (.str [c] u) (ih (m ++ [c]) vs (by rw [← e, List.append_assoc]; rfl) (Nat.succ.inj h1) fun j v e' => ?_)
   have := h2 (j + 1) v e'
   rwa [List.length_append, List.length_singleton, Nat.add_assoc, Nat.add_comm 1 j]
theorem evG_list_str {fe e : Expr} {pos : Pos} {l : List Nat} (hf : Ev G n env ρ ow fe (.raw (.type "list"))) (he : Ev G n env ρ ow e (.str l)) (hs : noStar [e] = true) (hattr : notAttr fe = true) (hl : l.length ≤ 1000000) :
  EvG G n env ρ ow (.Call fe [e] [] pos) fun d w => ∃ a, a ∉ keysOf ow ∧ d = own a ∧ w = (a, .list (signs l)) :: ow := .mk fun X A s E Rm F => by
 refine Call_ (wpAny_mono (hf.go X A s E Rm F) (fun v s₁ q => ?_) fun _ _ x => x) (call_eq hattr)
 obtain ⟨q, g⟩ := q
 refine Rep.eRaw q ?_
 have F₁ := F.keeps g
 refine callWith_type1 (wpAny_mono ((evAll_cons (noStar_head hs) he evAll_nil).go pos X A s₁ E Rm F₁) (fun vs s₂ q₂ => ?_) fun _ _ x => x) (starEach_cons hs) (backTo_any (noStar_tail hs))
 obtain ⟨q₂, g₂⟩ := q₂
 refine el12 q₂.one fun _ y0 => ?_; subst y0; intro r₂
 refine Rep.eStr r₂ fun t => ?_
 refine call_list_str Rm.hd _ t (fun h' tk acc' c' hk ho hit => evG_grow (g.trans g₂) (evG_new (F₁.keeps g₂) (none_at (Nat.le_refl _)) hk ⟨acc'.toList, ⟨c', by simpa using ho⟩, signs_rep (by simpa using hit.1) fun j v e => hit.2 j v (by simpa using e)⟩)) (small (by simpa using hl))
theorem evG_pop {oe e : Expr} {apos cpos : Pos} {a : Addr} {i : Int} {j : Nat} {d : D} {ds : List D} {ow' : Own} {pl : Sem Bool} (hq : MethEq env oe "pop" apos cpos [e] pl) (ho : Ev G n env ρ ow oe (own a)) (he : Ev G n env ρ ow e (.int i)) (hs : noStar [e] = true) (hi : i = (j : Int)) (hj : ds[j]? = some d) (hx : OSet a (.list ds) (.list (ds.eraseIdx j)) ow ow') (hl : ds.length ≤ 1000000) :
  EvG G n env ρ ow (.Call (.Attribute oe "pop" apos) [e] [] cpos) fun d' w => d' = d ∧ w = ow' := .mk fun X A s E R F => by
 refine MethodCall_ (wpAny_mono (ho.go X A s E R F) (fun v s₁ q => ?_) fun _ _ x => x) hq
 obtain ⟨q, g⟩ := q
 refine Rep.eRaw q ?_
 have F₁ := F.keeps g
 refine el12 ((F₁.owns _ hx.mem).1) fun vs hL ra => ?_
 refine getMethod_builtin hL.isList.typeIs PySem.F.plainAttrs_list PySem.F.slot_list_pop PySem.F.type_list_pop (fun a e => by (injection e with y0; subst y0); exact hL.noDict) ?_
 refine callWith_method1 (wpAny_mono ((evAll_cons (noStar_head hs) he evAll_nil).go cpos X A s₁ E R F₁) (fun ws s₂ q₂ => ?_) fun _ _ x => x) (starEach_cons hs) (backTo_any (noStar_tail hs))
 obtain ⟨q₂, g₂⟩ := q₂
 refine el12 q₂.one fun _ y0 => ?_; subst y0; intro r₂
 refine Rep.eInt r₂ fun t => ?_
 have F₂ := F₁.keeps g₂
 refine el12 ((F₂.owns _ hx.mem).1) fun vs y0 => ?_; refine el11 y0 fun k hL => ?_; intro ra
 refine el12 (ra.get hj) fun v hv rv => ?_
 have hjl : j < vs.length := (List.getElem?_eq_some_iff.mp hv).1
 have hsz : vs.toArray.size ≤ sizeLine := small (n := vs.toArray.size) (by rw [List.size_toArray, ra.length]; exact hl)
 have hf : Builtin.List.listFitsIndex i = true := by
  have := ra.length
  subst hi; unfold Builtin.List.listFitsIndex; simp; omega
 have hk : seqIndex? i vs.toArray.size = some j := by rw [seqIndex_of (by omega) (by rw [List.size_toArray]; omega)]; congr 1; omega
 have hv' : vs.toArray[j]? = some v := by simpa using hv
 refine call_meets PySem.F.slot_list_pop ⟨_, hL, rfl⟩ PySem.F.entry_list_pop (PySem.F.args_list_pop_2 _ _) (PySem.MeetsSeq.list_pop_at a vs.toArray k i t j v hf hk hv' (hs1 := hsz)) ⟨hL, ?_⟩
 have hup : (s₂.heap.update a (Obj.mapSeq fun xs => xs.eraseIdxIfInBounds j)).get? a = some (Obj.mapSeq (fun xs => xs.eraseIdxIfInBounds j) { cls := .type "list", data := .seq vs.toArray k }) := Heap.get?_update_self _ hL rfl
 have hs' : Heap.SameBut a s₂.heap (s₂.heap.update a (Obj.mapSeq fun xs => xs.eraseIdxIfInBounds j)) := .update ..
 have haX := (F₂.owns _ hx.mem).2
 have hsame : Same X s₂.heap (s₂.heap.update a (Obj.mapSeq fun xs => xs.eraseIdxIfInBounds j)) := .of_but hs' (.inl haX)
 have era : ∀ {vs : List Value} {ds : List D} {j : Nat}, RepAll X s₂.heap vs ds → RepAll X s₂.heap (vs.eraseIdx j) (ds.eraseIdx j) := fun {vs ds} => by
  induction ds generalizing vs with
  | nil => intro j r; refine RepAll.eNil r ?_; exact .nil
  | cons d ds ih => intro j r; refine RepAll.eCons r fun x r => ?_; cases j with
   | zero => exact r
   | succ j => exact .cons x (ih r)
 have hto : vs.toArray.eraseIdxIfInBounds j = (vs.eraseIdx j).toArray := by simp
 have F₃ := F₂.setOwn (tk := s₂.toks) hx hs' ⟨vs.eraseIdx j, ⟨_, hup.trans (by simp only [Obj.mapSeq, hto]; rfl)⟩, (era ra).mono hsame⟩
 refine ⟨d, ow', X, ⟨rfl, rfl⟩, .refl .., rv.mono hsame, F₃, (g.trans g₂).turn.trans (.but (t := s₂.toks) hs' (.inr (.inr (List.mem_map.mpr ⟨_, hx.mem, rfl⟩)))), fun b q => .inl (mut_same hx.keys q)⟩
end
end
section
section
open Builtin Builtin.Str
theorem from_nat (n k : Nat) : fromIndex n (k : Int) = k := by unfold fromIndex; omega
theorem gives_index_from (x y : Str) (i : Int) (t u v : Tok) (k : Nat) (r : List Nat) (h : occurrences x y (fromIndex x.length i) x.length 1 = k :: r) : Gives («str.index» ⟨[.str x t, .str y u, .int i v], []⟩) (.int k) := by
 show Gives (match occurrences x y (fromIndex x.length i) (min x.length x.length) 1 with | i :: _ => retInt i | [] => (do rule "str.index.not-found"; raiseError "ValueError" "substring not found")) _
 rw [Nat.min_self, h]
 exact .of_eq rfl
theorem gives_find_to (x y : Str) (i j : Int) (t u v w : Tok) : Gives («str.find» ⟨[.str x t, .str y u, .int i v, .int j w], []⟩) (.int (match occurrences x y (fromIndex x.length i) (min (fromIndex x.length j) x.length) 1 with | k :: _ => (k : Int) | [] => -1)) := by
 show Gives (match occurrences x y (fromIndex x.length i) (min (fromIndex x.length j) x.length) 1 with | k :: _ => retInt k | [] => (do rule "str.find.not-found"; retInt (-1))) _
 cases occurrences x y (fromIndex x.length i) (min (fromIndex x.length j) x.length) 1 with
 | nil => exact .rule (.of_eq rfl)
 | cons k _ => exact .of_eq rfl
end
section
variable {G : Gd} {n : Nat} {env : Env} {ρ : Loc} {ow : Own}
theorem fn_index_from {l : List Nat} {c lo i : Nat} (h1 : lo ≤ i) (h3 : l[i]? = some c) (hno : ∀ j, lo ≤ j → j < i → l[j]? ≠ some c) : FnIs G n (.builtin "str.index") [.str l, .str [c], .int (lo : Int)] (.int (i : Int)) := .mk fun X A s E vs R hb hX ra => by
 refine el34 ra.three fun _ _ _ y0 => ?_; subst y0; intro r r' r''
 refine Rep.eStr r fun t => ?_
 refine Rep.eStr r' fun u => ?_
 refine Rep.eInt r'' fun v => ?_
 refine call_gives F.slot_str_index (typeIs_str _ _ _) F.entry_str_index (F.args_str_index_3 _ _ _) (gives_index_from (tx l) (tx [c]) _ t u v i [] ?_) ⟨.int _ _, .toks _ _⟩
 rw [from_nat, tx_len]
 exact occ_first (Nat.le_refl _) h1 (List.getElem?_eq_some_iff.mp h3).1 h3 hno
theorem fn_find_to {l : List Nat} {c lo hi : Nat} {r : Int} (hx : hi ≤ l.length) (h : ∃ o, Builtin.Str.occurrences (tx l) (tx [c]) lo hi 1 = o ∧ r = match o with | k :: _ => (k : Int) | [] => -1) : FnIs G n (.builtin "str.find") [.str l, .str [c], .int (lo : Int), .int (hi : Int)] (.int r) := .mk fun X A s E vs R hb hX ra => by
 refine RepAll.eCons ra fun r1 ra => ?_
 refine el34 ra.three fun _ _ _ y0 => ?_; subst y0; intro r2 r3 r4
 refine Rep.eStr r1 fun t => ?_
 refine Rep.eStr r2 fun u => ?_
 refine Rep.eInt r3 fun v => ?_
 refine Rep.eInt r4 fun w => ?_
 refine el12 h fun o ho y0 => ?_; subst y0
 have hg := gives_find_to (tx l) (tx [c]) (lo : Int) (hi : Int) t u v w
 rw [from_nat, from_nat, tx_len, Nat.min_eq_left hx, ho] at hg
 exact call_gives F.slot_str_find (typeIs_str _ _ _) F.entry_str_find (F.args_str_find_4 _ _ _ _) hg ⟨.int _ _, .toks _ _⟩
theorem ev_rev {e st : Expr} {p pos : Pos} {l r : List Nat} (h : Ev G n env ρ ow e (.str l)) (h₁ : Ev G n env ρ ow st (.int (-1))) (hr : (⟨((slicePicked ⟨l.toArray⟩ none none (some (-1, 0))).filterMap ((⟨l.toArray⟩ : Str).cps[·]?)).toArray⟩ : Str) = ⟨r.toArray⟩) (hl : r.length ≤ sizeLine) :
  Ev G n env ρ ow (.Subscript e (.Slice none none (some st) p) pos) (.str r) := .mk <| fun X A s E R F => by
 refine Subscript_ (wpAny_mono (h.go X A s E R F) (fun v s₁ q => wpAny_Slice ?_) fun _ _ x => x)
 rw [evalPart_none]
 refine wpAny_pure (wpAny_pure (wpAny_mono (h₁.go X A s₁ E R (F.keeps q.2)) (fun vs s₂ q₂ => ?_) fun _ _ x => x))
 obtain ⟨q, g⟩ := q
 obtain ⟨q₂, g₂⟩ := q₂
 refine Rep.eStr q fun t => ?_
 refine Rep.eInt q₂ fun u => ?_
 refine tail_any (ops := [.ref s₂.heap.objs.size, .str ⟨l.toArray⟩ t]) (typeIs_str _ _ _) PySem.F.slot_str_getitem.lookup (wpAny_getItem_str_slice (l := none) (u := none) (st := some (-1, u)) ⟨_, Heap.get?_push_size _ rfl, rfl, rfl⟩ rfl ?_) ?_
 ·unfold sliceMade
  rw [if_neg (by simp)]
  have : (⟨((slicePicked ⟨l.toArray⟩ none none (some (-1, u))).filterMap ((⟨l.toArray⟩ : Str).cps[·]?)).toArray⟩ : Str) = ⟨r.toArray⟩ := hr
  rw [this]
  exact ⟨by rw [Str.length, List.size_toArray]; exact hl, .str _ _, (g.trans g₂).trans (.push _ _ _)⟩
 ·rfl
theorem bin_mul_str {c : Nat} {i : Int} (h : i = 0 ∨ i = 1 ∨ i = 2) : BinIs .Mult (.str [c]) (.int i) (.str (List.replicate i.toNat c)) := .mk <| fun prog w X A s E v₁ v₂ _ _ r₁ r₂ => by
 refine Rep.eStr r₁ fun t => ?_
 refine Rep.eInt r₂ fun _ => ?_
 rcases h with rfl | rfl | rfl
 ·exact P.mul_str (by decide) (fun h => absurd (by decide) h) (fun h => absurd (by decide) h) ⟨by decide, .str [] _, .toks _ _⟩
 ·exact P.mul_str (by decide) (fun _ h => absurd h (by simp)) (fun _ h => absurd h (by simp)) ⟨.str [c] _, .refl _⟩
 ·exact P.mul_str (by decide) (fun _ _ => show ¬ ((1 : Nat) : Int) > (2 ^ 63 - 1) / 2 by decide) (fun _ _ => show Builtin.Str.tooLong (1 * 2) = false by decide) ⟨show 2 ≤ sizeLine by decide, .str [c, c] _, .toks _ _⟩
theorem cmp_in_data {ds : List D} {d : D} {b : Bool} (o₁ : pysOk ds = true) (o₂ : pyOk d = true) (l₁ : PyData.canLayAll0 (pys ds) = true) (l₂ : (py d).canLay0 = true) (hd : (py d).depth < 64) (hb : ((pys ds).any fun y => PyData.eqv y (py d)) = b) : CmpIs .In d (.list ds) b := .mk <| fun prog w X A s E v₁ v₂ hu r₁ r₂ => by
 refine el11 (r₁.reads o₂) fun as h1 => ?_
 refine el11 (r₂.reads (d := .list ds) o₁) fun bs h2 => ?_
 exact PySem.SeqAt.in_list_reads h2 h1 l₁ l₂ (by have := Nat.min_le_right (PyData.depthAll (pys ds)) (py d).depth; omega) ⟨by rw [hb], .refl _⟩
end
end
section
section
variable {G : Gd} {n : Nat} {env : Env} {ρ ρc : Loc} {ow : Own} {bs : List (List Stmt)} {o : Out}
noncomputable def never : D := .fn (fun _ => False) ""
theorem ex_void {x : Str} (h : ρ.lookup x = some never) : Ex G n env ρ ow bs o := .mk fun X A s E R B F => by
 cases F.vars x _ h with
 | loc m v a b c r => refine Rep.eFn r fun a b c d _ _ => ?_; exact d.elim
 | cell c v a b e r => refine Rep.eFn r fun a b c d _ _ => ?_; exact d.elim
noncomputable def guardL (p : Prop) [Decidable p] (r : Loc) : Loc := if p then r else [("", never)]
theorem ex_guard {p : Prop} [Decidable p] {x : Str} {d : D} {r : Loc} (hx : (("" : Str) == x) = false) (h : p → Ex G n env ((x, d) :: r) ow bs o) : Ex G n env ((x, d) :: guardL p r) ow bs o := by
 unfold guardL
 by_cases hp : p
 ·rw [if_pos hp]; exact h hp
 ·rw [if_neg hp]; exact ex_void (x := "") (lk_next hx lk_here)
theorem ex_guard2 {p : Prop} [Decidable p] {x y : Str} {d e : D} {r : Loc} (hx : (("" : Str) == x) = false) (hy : (("" : Str) == y) = false) (h : p → Ex G n env ((x, d) :: (y, e) :: r) ow bs o) : Ex G n env ((x, d) :: (y, e) :: guardL p r) ow bs o := by
 unfold guardL
 by_cases hp : p
 ·rw [if_pos hp]; exact h hp
 ·rw [if_neg hp]; exact ex_void (x := "") (lk_next hx (lk_next hy lk_here))
theorem ex_guard0 {p : Prop} [Decidable p] {r : Loc} (h : p → Ex G n env r ow bs o) : Ex G n env (guardL p r) ow bs o := by
 unfold guardL
 by_cases hp : p
 ·rw [if_pos hp]; exact h hp
 ·rw [if_neg hp]; exact ex_void (x := "") lk_here
theorem sub_guard {p : Prop} [Decidable p] {r : Loc} (hp : p) (h : Sub r ρ) : Sub (guardL p r) ρ := by unfold guardL; rw [if_pos hp]; exact h
theorem signs_filter (q : Nat → Bool) : ∀ w : List Nat, ((signs w).flatMap fun d => if q (d.s.headD 0) then [d] else []) = signs (w.filter q)
 | [] => rfl
 | c :: w => by
  have ih := signs_filter q w
  show (if q c then [D.str [c]] else []) ++ (signs w).flatMap _ = _
  rw [ih, List.filter_cons]
  cases q c <;> rfl
theorem ev_filt {iter c : Expr} {x : Str} {px pe pos : Pos} {scope : Scope} {w : List Nat} (q : Nat → Bool) (hfold : ∀ x, foldedSetIterable iter env x = pure x) (hcl : closOk env.cells scope.names = true) (hok : scopeOk scope = true) (hx : scope.names.lookup x = some .local) (hl : ρc.lookup x = none)
  (hd : (x == ("__debug__" : Str)) = false) (hc : (x == ("__classdict__" : Str)) = false) (hf : FSub scope env ρc ρ) (hi : Ev G n env ρ ow iter (.str w)) (hsz : w.length ≤ 1000000)
  (ht : ∀ C da done, ∀ a ∈ w, Tst G n (cenvOf scope env C) ((x, .str [a]) :: ρc) [(da, .list done)] c (q a)) :
  Ev G n env ρ ow (.ListComp (.Name x pe) [⟨.Name x px, iter, [c], 0⟩] scope pos) (.list (signs (w.filter q))) := by
 refine ev_comp (src_of hi iter_str) hfold hcl (scopeOk_kind hok) (scopeOk_names hok) (scopeOk_cell hok) hf (fun C da => ?_) (small (by rw [signs, List.length_map]; exact Nat.le_trans (List.length_filter_le ..) hsz))
 rw [← signs_filter]
 refine loops_filter (fun d => q (d.s.headD 0)) id (lookup_relabel_local hx) hl (fun d hd done => ?_) fun d _ _ done => ev_name lk_here hd hc
 refine el12 (mem_signs hd) fun a ha y0 => ?_; subst y0
 exact ht C da done a ha
theorem joinL_ones (l : List Nat) : joinL [] (l.map fun c => [c]) = l := by
 rw [joinL_nil, ← List.flatMap_def]
 exact List.flatMap_singleton' l
theorem ev_join_signs {oe e : Expr} {apos pos : Pos} {pl : Sem Bool} {l : List Nat} (hs : noStar [e] = true) (he : MethEq env oe "join" apos pos [e] pl) (ho : Ev G n env ρ ow oe (.str [])) (ha : Ev G n env ρ ow e (.list (signs l))) (h : l.length ≤ 1000000) : Ev G n env ρ ow (.Call (.Attribute oe "join" apos) [e] [] pos) (.str l) := by
 refine ev_eq (ev_join (ps := l.map fun c => [c]) hs he ho (ev_eq ha (congrArg D.list (List.map_map (l := l) (f := fun c => [c]) (g := D.str)).symm)) ?_) (by rw [joinL_ones])
 rw [List.map_map]
 have : ∀ l : List Nat, (l.map ((fun p : List Nat => p.length + 0) ∘ fun c => [c])).sum = l.length := fun l => by
  induction l with
  | nil => rfl
  | cons c l ih => rw [List.map_cons, List.sum_cons, ih, List.length_cons]; exact Nat.add_comm ..
 exact (this l).symm ▸ h
theorem ev_item0 {e i : Expr} {pos : Pos} {c : Nat} {r : List Nat} (hi : isSlice i = false) (h₁ : Ev G n env ρ ow e (.str (c :: r))) (h₂ : Ev G n env ρ ow i (.int 0)) (hl : r.length ≤ 1000000) : Ev G n env ρ ow (.Subscript e i pos) (.str [c]) :=
 ev_item hi h₁ h₂ (item_str0 (l := c :: r) ⟨Int.le_refl _, by rw [List.length_cons]; omega⟩ (by rw [List.length_cons]; omega))
theorem cmp_notin_strE {l : List Nat} {c : Nat} {b : Bool} (h : (!decide (c ∈ l)) = b) : CmpIs .NotIn (.str [c]) (.str l) b := h ▸ cmp_notin_str
end
end
section
theorem idxs_at {a b : List Nat} {c : Nat} (ha : c ∉ a) (hb : c ∉ b) : idxs c (a ++ c :: b) = [a.length] := by
 have h1 := idxs_first (b := b) ha
 have h2 := idxs_length c (a ++ c :: b)
 rw [List.count_append, List.count_cons_self, List.count_eq_zero.mpr ha, List.count_eq_zero.mpr hb] at h2
 rwa [List.take_of_length_le (by omega)] at h1
theorem replace_at {a b : List Nat} {c : Nat} (z : List Nat) (ha : c ∉ a) (hb : c ∉ b) : Txt.replace (tx (a ++ c :: b)) (tx [c]) (tx z) = tx (a ++ (z ++ b)) := by
 have ho : Builtin.Str.occurrences (tx (a ++ c :: b)) (tx [c]) 0 (tx (a ++ c :: b)).length ((tx (a ++ c :: b)).length + 1) = [a.length] := by
  rw [occ_one, idxs_at ha hb, List.take_succ_cons, List.take_nil]
 have hp : Builtin.Str.partsBetween (tx (a ++ c :: b)) [a.length] (tx [c]).length = [tx a, tx b] := by
  unfold Builtin.Str.partsBetween Builtin.Str.strSub
  simp [Str.length]
  exact List.take_of_length_le (by omega)
 unfold Txt.replace
 rw [ho, hp, if_neg (by simp [Str.length])]
 unfold Builtin.Str.glued
 simp
section
variable {G : Gd} {n : Nat} {env : Env} {ρ : Loc} {ow : Own} {bs : List (List Stmt)} {o : Out}
structure ExP (G : Gd) (n : Nat) (env : Env) (ρ : Loc) (ow : Own) (bs : List (List Stmt)) (o : Out) : Prop where
 go : ∀ (X : List Addr) (A : Around) (s : Shared) (E : Value → Shared → Prop), Room n A → (∀ a ∈ o.base, a ∈ X) → 1 ≤ s.toks → Fits G env X ρ ow s →
  seqP (model G.prog G.w) A env E bs (ExQ G env ow o s) .next s
theorem Ex.toP (h : Ex G n env ρ ow bs o) : ExP G n env ρ ow bs o := ⟨fun X A s E R B _ F => h.go X A s E R B F⟩
theorem ex_if_lit {x : Str} {k : Nat} {p q pos : Pos} {op : CmpOp} {e₂ : Expr} {a b rest : List Stmt} {l : List Nat} {d₂ : D} {c : Bool} (hx : x = ⟨l.toArray⟩) (hm : behindInMarks op e₂ = false) (h₂ : Ev G (n + 8) env ρ ow e₂ d₂) (hc : CmpIs op (.str l) d₂ c)
  (h₁ : c = true → ExP G (n + 8) env ρ ow (a :: rest :: bs) o) (h₀ : c = false → ExP G (n + 8) env ρ ow (b :: rest :: bs) o) : Ex G (n + 8) env ρ ow ((.If (.Compare (.Constant (.str x) k p) [op] [e₂] q) a b pos :: rest) :: bs) o := .mk fun X A s E R B F => by
 subst hx
 refine wpAny_execs_cons (wpAny_If (wpAny_isTrue_Compare1 (Constant_str ?_) hm))
 have g0 : Grow s { s with toks := s.toks + 1 } := .toks _ _
 refine wpAny_mono (wpAny_toks_of (n := 1) (Nat.succ_pos _) (h₂.go X A _ E R (F.keeps g0))) (fun v₂ s₂ q₂ => ?_) fun _ _ x => x.2
 refine wpAny_mono (wpAny_toks_of (n := 1) q₂.1 (hc.go _ _ X A s₂ E _ v₂ (by have := R.un; omega) (.str l _) q₂.2.1)) (fun v s' q => ?_) fun _ _ x => x.2
 obtain ⟨ht, rfl, g⟩ := q
 have gg := (g0.trans q₂.2.2).trans g
 refine wpAny_truthy_bool ?_
 have key : ∀ {bs' : List (List Stmt)}, ExP G (n + 8) env ρ ow bs' o → seqP (model G.prog G.w) A env E bs' (ExQ G env ow o s) .next s' := fun h =>
  seqP_mono (fun f s₂ q => ⟨gg.turn.trans q.1, q.2⟩) _ _ (h.go X A s' E R B ht (F.keeps gg))
 cases c with
 | true => exact seq_fork (key (h₁ rfl))
 | false => exact seq_fork (key (h₀ rfl))
theorem exP_replace {x c₁ c₂ : Str} {k₁ k₂ : Nat} {p1 p2 p3 p4 p5 p6 p7 : Pos} {rest : List Stmt} {l y z r : List Nat} {pl : Sem Bool} (hk : storable env x = true) (hs : swapsWith (.Call (.Attribute (.Name x p2) "replace" p3) [.Constant (.str c₁) k₁ p4, .Constant (.str c₂) k₂ p5] [] p6) (some (.Name x p1)) p7.line env = pure false)
  (he : MethEq env (.Name x p2) "replace" p3 p6 [.Constant (.str c₁) k₁ p4, .Constant (.str c₂) k₂ p5] pl) (hx : Ev G n env ρ ow (.Name x p2) (.str l)) (hy : c₁ = ⟨y.toArray⟩) (hz : c₂ = ⟨z.toArray⟩) (hyz : (tx y == tx z) = false) (hr : Txt.replace (tx l) (tx y) (tx z) = tx r) (hl : l.length + (l.length + 1) * z.length ≤ 16777216)
  (h : Ex G n env ((x, .str r) :: ρ) ow (rest :: bs) o) : ExP G n env ρ ow ((.Assign [.Name x p1] (.Call (.Attribute (.Name x p2) "replace" p3) [.Constant (.str c₁) k₁ p4, .Constant (.str c₂) k₂ p5] [] p6) p7 :: rest) :: bs) o := .mk fun X A s E R B ht F => by
 subst hy hz
 refine wpAny_execs_cons (wpAny_Assign_Name (MethodCall_ (wpAny_mono (wpAny_toks_of (n := 1) ht (hx.go X A s E R F)) (fun v s₁ q => ?_) fun _ _ x => x.2) he) hs)
 obtain ⟨ht₁, q, g⟩ := q
 refine Rep.eStr q fun t => ?_
 refine getMethod_builtin (typeIs_str _ _ _) PySem.F.plainAttrs_str PySem.F.slot_str_replace PySem.F.type_str_replace (fun a e => by injection e) ?_
 refine callWith_method1 ?_ (starEach_cons rfl) (backTo_any rfl)
 show wpAny _ _ (spliced ((false, eval (.Constant (.str (tx y)) k₁ p4) env) :: (false, eval (.Constant (.str (tx z)) k₂ p5) env) :: [])) _ _ _
 refine spliced_cons (Constant_str (spliced_cons (Constant_str (spliced_nil ?_))))
 refine SC.replace (show s₁.toks ≠ 0 by omega) (show s₁.toks + 1 ≠ 0 by omega) (show s₁.toks ≠ s₁.toks + 1 by omega) hyz (by rw [tx_len, tx_len]; exact hl) fun t' k => ?_
 rw [hr]
 have gg : Grow s { s₁ with toks := k } := g.trans (.toks _ _)
 exact store_any hk (F.keeps gg) (.str r t') fun h' tk F' t'' _ => h.from' R B F' (gg.turn.trans t'')
end
end
section
theorem mk_range_none {target : Expr} : MkIter "range" [.int 0, .int 0, .int (-1)] target [] := .mk fun prog w X A s Q E vs hh hX ra hQ => by
 refine el34 ra.three fun _ _ _ y0 => ?_; subst y0; intro r r' r''
 refine Rep.eInt r fun t => ?_
 refine Rep.eInt r' fun u => ?_
 refine Rep.eInt r'' fun v => ?_
 refine call_range_3 (by decide) (wpAny_pyIter_range (a := 0) (b := 0) (c := -1) (t := t) (u := u) (v := v) (Heap.get?_push_size _ rfl) rfl ?_) (.inl rfl)
 generalize hR : s.heap.push { cls := Value.type "range", data := Data.fields #[Value.int 0 t, Value.int 0 u, Value.int (-1) v] } = h₁
 have hup : ∀ b o, s.heap.get? b = some o → h₁.get? b = some o := fun b o e => hR ▸ Heap.get?_push_of_some _ e
 have hn : s.heap.get? h₁.objs.size = none := none_at (by rw [← hR, Heap.size_push]; exact Nat.le_succ _)
 have hit : (h₁.push { cls := .type "range_iterator", data := .fields #[rawInt 0, rawInt 0, rawInt (-1)] }).get? h₁.objs.size = some { cls := .type "range_iterator", data := .fields #[rawInt 0, rawInt 0, rawInt (-1)] } := Heap.get?_push_size _ rfl
 refine hQ (.ref h₁.objs.size) [h₁.objs.size] [h₁.objs.size] (fun X i h => IsRangeIter h h₁.objs.size (0 + (i : Nat) * (-1)) (((0 : Nat) : Int) - (i : Nat)) (-1) ∧ True) _ _ (fun A' hA' => ?_)
  ⟨hit, trivial⟩ (fun b o e => Heap.get?_push_of_some _ (hup b o e)) (fun b hb => by rw [List.mem_singleton.mp hb]; exact ⟨hn, _, hit⟩) (fun b hb => .inl hb)
 exact Run.of_walks (T := "range_iterator") (Walks.range hA' h₁.objs.size 0 (-1) 0) rfl (List.mem_cons_self ..)
  (fun i h st => ⟨_, st, rfl⟩) rfl (fun _ _ _ _ _ _ => trivial) (fun _ _ _ _ _ => trivial) (fun X i d v h hd => by injection hd) (fun _ _ _ _ _ _ => trivial)
end
section
theorem set_only {prog : Program} {w : World} {A : Around} {E : Value → Shared → Prop} {s : Shared} {a : Addr} {x v : Value} {n : Nat} {t : Tok} {Q : Unit → Shared → Prop} (hl : s.heap.get? a = some { cls := .type "list", data := .seq #[x] n })
  (hQ : ∀ h', (∃ m, h'.get? a = some { cls := .type "list", data := .seq #[v] m }) → Heap.SameBut a s.heap h' → Q () { s with heap := h' }) : wpAny (model prog w) A (setItem (.ref a) (.int (-1) t) v) Q E s := by
 have hT : s.TypeIs (.ref a) "list" := ⟨_, hl, rfl⟩
 unfold setItem
 refine wpAny_holding ?_
 refine wpAny_bind (wpAny_sequenceKey hT (by decide) ?_)
 refine wpAny_bind (wpAny_callSpecial?_slot (name := Str.ofString "__setitem__") hT PySem.F.slot_list_setitem
  (wpAny_call_entry PySem.F.slot_list_setitem hT PySem.F.entry_list_setitem ?_ (PySem.F.args_list_setitem_3 _ _ _)))
 show wpAny _ _ (Builtin.List.listSubscript? (.int (-1) t) >>= _) _ _ s
 refine wpAny_bind (wpAny_listSubscript_int rfl ?_)
 have fin := hQ (s.heap.update a (Obj.mapSeq (·.setIfInBounds 0 v))) ⟨_, Heap.get?_update_self _ hl rfl⟩ (.update ..)
 wp_walk using (wpAny_loadPart' hl)
 exact ⟨_, rfl, wpAny_pure fin⟩
section
variable {G : Gd} {n : Nat} {env : Env} {ρ : Loc} {ow : Own} {bs : List (List Stmt)} {o : Out}
theorem ex_auglast {oe e ie : Expr} {sp pos : Pos} {op : Operator} {rest : List Stmt} {a : Addr} {d₁ d₂ d : D} {ow' : Own} (hn : isSlice ie = false) (ho : Ev G n env ρ ow oe (own a)) (hi : Ev G n env ρ ow ie (.int (-1))) (he : Ev G n env ρ ow e d₂) (hop : IncIs op d₁ d₂ d) (hx : OSet a (.list [d₁]) (.list [d]) ow ow') (h : Ex G n env ρ ow' (rest :: bs) o) :
  Ex G n env ρ ow ((.AugAssign (.Subscript oe ie sp) op e pos :: rest) :: bs) o := .mk fun X A s E R B F => by
 refine wpAny_execs_cons ?_
 rw [arm_exec_AugAssign_3]
 refine wpAny_bind (wpAny_standAt (wpAny_bind (wpAny_mono (ho.go X A s E R F) (fun v s₁ q₁ => ?_) fun _ _ x => x)))
 obtain ⟨q₁, g₁⟩ := q₁
 refine Rep.eRaw q₁ ?_
 refine wpAny_bind (wpAny_holding (wpAny_mono (hi.go X A s₁ E R (F.keeps g₁)) (fun v s₂ q₂ => ?_) fun _ _ x => x))
 obtain ⟨q₂, g₂⟩ := q₂
 refine Rep.eInt q₂ fun t => ?_
 have F₂ := (F.keeps g₁).keeps g₂
 refine wpAny_bind (wpAny_holding (wpAny_bind (wpAny_standAt (wpAny_bind ?_))))
 refine el12 ((F₂.owns _ hx.mem).1) fun vs y0 => ?_; refine el11 y0 fun k hL => ?_; intro ra
 refine el12 ra.one fun v₁ y0 => ?_; subst y0; intro r₁
 refine wpAny_getItem_list_neg (items := #[v₁]) ⟨_, hL, rfl, _, rfl⟩ (by decide) (show -((1 : Nat) : Int) ≤ -1 by decide) (by decide) rfl ?_
 refine wpAny_bind (wpAny_holding (wpAny_mono (he.go X A s₂ E R F₂) (fun v₂ s₃ q₃ => ?_) fun _ _ x => x))
 obtain ⟨q₃, g₃⟩ := q₃
 have F₃ := F₂.keeps g₃
 refine wpAny_bind (wpAny_standAt (wpAny_operating (wpAny_mono (hop.go _ _ X A s₃ E v₁ v₂ R.units F₃.live (r₁.keeps g₃.heap) q₃) (fun v s₄ q₄ => ?_) fun _ _ x => x)))
 obtain ⟨q₄, g₄⟩ := q₄
 have F₄ := F₃.keeps g₄
 refine wpAny_bind (wpAny_standAt ?_)
 have hau : augStore ie (.ref a) (.int (-1) t) v = (do
   holding [v, .ref a, .int (-1) t] (setItem (.ref a) (.int (-1) t) v)
   release [v, .ref a, .int (-1) t] []
   pure .next) := by cases ie <;> first | rfl | injection hn
 rw [hau]
 refine wpAny_bind (wpAny_holding (set_only (g₄.heap _ _ (g₃.heap _ _ hL)) fun h' hl' hs' => ?_))
 refine wpAny_bind (wpAny_release (wpAny_pure ?_))
 refine el11 hl' fun m hl' => ?_
 have hm : Same X s₄.heap h' := .of_but hs' (.inl (F₄.owns _ hx.mem).2)
 exact h.from R B (F₄.setOwn (tk := s₄.toks) hx hs' ⟨[v], ⟨m, hl'⟩, .cons (q₄.mono hm) .nil⟩) (((((g₁.trans g₂).trans g₃).trans g₄).turn).trans (.but (t := s₄.toks) hs' (.inr (.inr (List.mem_map.mpr ⟨_, hx.mem, rfl⟩))))) fun b q => .inl (mut_same hx.keys q)
theorem ex_if_lit_join {x : Str} {k : Nat} {p q pos : Pos} {op : CmpOp} {e₂ : Expr} {a b rest : List Stmt} {l : List Nat} {d₂ : D} {c : Bool} (S : Loc → Own → Prop) (hx : x = ⟨l.toArray⟩) (hm : behindInMarks op e₂ = false) (h₂ : Ev G (n + 8) env ρ ow e₂ d₂) (hc : CmpIs op (.str l) d₂ c)
  (h : ∀ r w, S r w → Ex G (n + 8) env r w (rest :: bs) o) (h₁ : c = true → (∀ r w, S r w → Ex G (n + 8) env r w (rest :: bs) o) → ExP G (n + 8) env ρ ow (a :: rest :: bs) o) (h₀ : c = false → (∀ r w, S r w → Ex G (n + 8) env r w (rest :: bs) o) → ExP G (n + 8) env ρ ow (b :: rest :: bs) o) :
  Ex G (n + 8) env ρ ow ((.If (.Compare (.Constant (.str x) k p) [op] [e₂] q) a b pos :: rest) :: bs) o := ex_if_lit hx hm h₂ hc (fun e => h₁ e h) fun e => h₀ e h
end
end
section
noncomputable def oneProto (C : Addr) (fp wr : List Addr) (F : Value → Prop) : Protocol := fun m s₀ v s kap => m = 0 ∧ F v ∧ GenSince C wr s₀ s ∧ 1 ≤ s.toks ∧ ∀ s'' : Shared, 1 ≤ s''.toks → (∀ b ∈ C :: fp, ∀ o, s.heap.get? b = some o → s''.heap.get? b = some o) → kap (.send .none) s''
noncomputable abbrev oneEnd (C : Addr) (wr : List Addr) : GenEnd := fun n s₀ r s₁ => r = .ok .next ∧ (n = 0 ∧ GenSince C wr s₀ s₁)
section
variable {prog : Program} {w : World} {A : Around} {elt iter : Expr} {x : Str} {px : Pos} {scope : Scope} {pos : Pos} {I : Addr} {fp wr : List Addr} {P : Nat → Value → Prop} {St₀ : Nat → Heap → Prop} {cenv : Env} {F : Value → Prop}
theorem one_last (hh : A.handled = none) (W₀ : ∀ A' : Around, A'.handled = none → Walks prog w A' I fp wr 1 P St₀) (s₀ s : Shared) (hst : St₀ 1 s.heap) (hsince : GenSince cenv.locals wr s₀ s) :
  Seg (model prog w) A (oneEnd cenv.locals wr) (oneProto cenv.locals fp wr F) 0 s₀ (.compLoop (.GeneratorExp elt [⟨.Name x px, iter, [], 0⟩] scope pos) 0 (.ref I) .none cenv)
   ((model prog w).den (.compLoop (.GeneratorExp elt [⟨.Name x px, iter, [], 0⟩] scope pos) 0 (.ref I) .none cenv)) [] s := by
 have hh' : (A.over (.compLoop (.GeneratorExp elt [⟨.Name x px, iter, [], 0⟩] scope pos) 0 (.ref I) .none cenv) []).handled = none := hh
 show Seg _ A _ _ _ s₀ _ ((compTurn (.GeneratorExp elt [⟨.Name x px, iter, [], 0⟩] scope pos) 0 (.ref I) .none cenv).onRaise (leaving cenv)) [] s
 rw [compTurn_gen, Sem.onRaise_eq_wrap]
 refine seg_bind_wrap (wpAny_standAt ?_)
 refine seg_bind_wrap ((W₀ _ hh').done s _ _ hst fun h' tk hk' => ?_)
 exact seg_end (.ok .next) ⟨rfl, rfl, hsince.step fun b o _ hw e => hk' b o hw e⟩
theorem one_first (hh : A.handled = none) (W₀ : ∀ A' : Around, A'.handled = none → Walks prog w A' I fp wr 1 P St₀)
  (hx : cenv.kindOf x = some .local) (hp : (cenv.scope.kind == .class || (cenv.scope.kind == .module && cenv.locals != cenv.globals)) = false) (hco : cenv.scope.isCoroutine = false) (hCf : cenv.locals ∉ fp)
  (hel : ∀ (A' : Around) (E' : Value → Shared → Prop) v (s₂ : Shared) m₂, P 0 v → 1 ≤ s₂.toks → s₂.heap.Ns cenv.locals m₂ → m₂ x = some v → wpAny (model prog w) A' (eval elt cenv) (fun y s₃ => F y ∧ PySem.Keeps s₂ s₃) E' s₂)
  (s₀ s : Shared) (m : Str → Option Value) (ht : 1 ≤ s.toks) (hst : St₀ 0 s.heap) (hn : s.heap.Ns cenv.locals m) (hsince : GenSince cenv.locals wr s₀ s) :
  Seg (model prog w) A (oneEnd cenv.locals wr) (oneProto cenv.locals fp wr F) 1 s₀ (.compLoop (.GeneratorExp elt [⟨.Name x px, iter, [], 0⟩] scope pos) 0 (.ref I) .none cenv)
   ((model prog w).den (.compLoop (.GeneratorExp elt [⟨.Name x px, iter, [], 0⟩] scope pos) 0 (.ref I) .none cenv)) [] s := by
 have hh' : (A.over (.compLoop (.GeneratorExp elt [⟨.Name x px, iter, [], 0⟩] scope pos) 0 (.ref I) .none cenv) []).handled = none := hh
 have hCw : cenv.locals ∉ wr := fun h => hCf ((W₀ A hh).sub _ h)
 show Seg _ A _ _ _ s₀ _ ((compTurn (.GeneratorExp elt [⟨.Name x px, iter, [], 0⟩] scope pos) 0 (.ref I) .none cenv).onRaise (leaving cenv)) [] s
 rw [compTurn_gen, Sem.onRaise_eq_wrap]
 refine seg_bind_wrap (wpAny_standAt ?_)
 refine seg_bind_wrap (wpAny_with_toks (n := 1) ht ((W₀ _ hh').item 0 s _ _ Nat.one_pos hst fun v h₁ tk₁ hPv hst₁ hk₁ htk => ?_))
 refine seg_bind_wrap (wpAny_of_eq (rfl : letOwnedTupleGo (.Name x px) (.ref I) v = pure ()) ?_)
 refine seg_bind_wrap (wpAny_assign_Name (wpAny_storeName_local hx (hn.at' fun o e => hk₁ _ o hCw e) (fun h₂ hn₂ hs₂ => ?_) hp))
 have up₂ : ∀ b o, b ≠ cenv.locals → b ∉ wr → s.heap.get? b = some o → h₂.get? b = some o := fun b o hbC hbw e => hs₂.extBut b o hbC (hk₁ b o hbw e)
 have hst₂ : St₀ 1 h₂ := (W₀ A hh).frame _ _ _ hst₁ fun b hb o e => hs₂.extBut b o (fun h => hCf (h ▸ hb)) e
 refine seg_bind_wrap (wpAny_pure ?_)
 simp only [if_true]
 have hy : ∀ v, yieldOut cenv v = yieldValue v := fun v => by simp only [yieldOut, hco, Bool.false_eq_true, if_false]
 simp only [hy]
 rw [Sem.bind_eq_wrap', Sem.bind_eq_wrap', Sem.wrap_wrap, Sem.wrap_wrap]
 refine seg_wrap (wpAny_with_toks (n := 1) (Nat.succ_pos tk₁) (wpAny_mono (hel _ _ v _ _ hPv (Nat.succ_pos tk₁) hn₂ (by simp)) (fun y s₄ h₄ => ?_) fun _ _ e _ => e))
 obtain ⟨hFy, h₄, tk₄, rfl, hk₄⟩ := h₄
 intro ht₄
 refine seg_at (seg_yield rfl rfl rfl ⟨rfl, hFy, hsince.step fun b o hbC hbw e => hk₄ b o (up₂ b o hbC hbw e), ht₄, fun s'' _ hal => ?_⟩)
 exact seg_again rfl (one_last hh W₀ s'' s'' ((W₀ A hh).frame _ _ _ hst₂ fun b hb o e => hal b (List.mem_cons_of_mem _ hb) o (hk₄ b o e)) (GenSince.refl _ _ _))
theorem one_start (hh : A.handled = none) (W₀ : ∀ A' : Around, A'.handled = none → Walks prog w A' I fp wr 1 P St₀)
  (hx : cenv.kindOf x = some .local) (hp : (cenv.scope.kind == .class || (cenv.scope.kind == .module && cenv.locals != cenv.globals)) = false) (hco : cenv.scope.isCoroutine = false) (hCf : cenv.locals ∉ fp)
  (hel : ∀ (A' : Around) (E' : Value → Shared → Prop) v (s₂ : Shared) m₂, P 0 v → 1 ≤ s₂.toks → s₂.heap.Ns cenv.locals m₂ → m₂ x = some v → wpAny (model prog w) A' (eval elt cenv) (fun y s₃ => F y ∧ PySem.Keeps s₂ s₃) E' s₂)
  (s₀ s : Shared) (m : Str → Option Value) (ht : 1 ≤ s.toks) (hst : St₀ 0 s.heap) (hn : s.heap.Ns cenv.locals m) (hsince : GenSince cenv.locals wr s₀ s) :
  Seg (model prog w) A (oneEnd cenv.locals wr) (oneProto cenv.locals fp wr F) 1 s₀ (.compStart (.GeneratorExp elt [⟨.Name x px, iter, [], 0⟩] scope pos) 0 (.ref I) .none cenv)
   ((model prog w).den (.compStart (.GeneratorExp elt [⟨.Name x px, iter, [], 0⟩] scope pos) 0 (.ref I) .none cenv)) [] s := by
 have hh' : (A.over (.compStart (.GeneratorExp elt [⟨.Name x px, iter, [], 0⟩] scope pos) 0 (.ref I) .none cenv) []).handled = none := hh
 have loop := one_first (iter := iter) (px := px) (scope := scope) (pos := pos) hh W₀ hx hp hco hCf hel s₀ s m ht hst hn hsince
 show Seg _ A _ _ _ s₀ _ ((compStart (.GeneratorExp elt [⟨.Name x px, iter, [], 0⟩] scope pos) 0 (.ref I) .none cenv).onRaise (leaving cenv)) [] s
 unfold compStart
 rw [Sem.onRaise_eq_wrap]
 show Seg _ A _ _ _ s₀ _ ((ask >>= _).wrap _ _ _ _) [] s
 refine seg_bind_wrap (wpAny_askSetting ?_)
 split
 ·exact seg_again rfl loop
 ·first
   | exact seg_bind_wrap (wpAny_rule (seg_bind_wrap (wpAny_standAt (seg_bind_wrap ((W₀ _ hh').self 0 s _ _ hst (seg_again rfl loop))))))
   | (refine seg_bind_wrap (wpAny_rule ?_); show Seg _ A _ _ _ s₀ _ ((standAt iter.pos >>= _).wrap _ _ _ _) [] s; exact seg_bind_wrap (wpAny_standAt (seg_bind_wrap ((W₀ _ hh').self 0 s _ _ hst (seg_again rfl loop)))))
end
noncomputable def OneAt (prog : Program) (w : World) (A : Around) (a : Addr) (g : Nat) (C : Addr) (fp wr : List Addr) (F : Value → Prop) (j : Nat) (s : Shared) : Prop :=
 1 ≤ s.toks ∧ s.heap.IsGen a g ∧ s.heap.NoLimit ∧ ∃ gs, s.gens[g]? = some gs ∧ ∀ s'' : Shared, 1 ≤ s''.toks → (∀ b ∈ C :: fp, ∀ o, s.heap.get? b = some o → s''.heap.get? b = some o) →
  gs.Goes (model prog w) A.in1 (oneEnd C wr) (oneProto C fp wr F) (1 - j) (.send .none) s''
theorem one_walks {prog : Program} {w : World} {A : Around} (hh : A.handled = none) (a : Addr) (g : Nat) (C : Addr) (fp wr : List Addr) (F : Value → Prop) (haC : a ≠ C) (haf : a ∉ fp) (hsub : ∀ b ∈ wr, b ∈ fp)
  (hroom : A.depth < recursionLimit) (hcs : cStatics ∈ fp) (hcC : cStatics ≠ C) (hcw : cStatics ∉ wr) :
  WalksS prog w A a (a :: C :: fp) (C :: wr) (GenOnlyQ g) 1 (fun _ y => F y) (OneAt prog w A a g C fp wr F) where
 sub := fun b hb => by
  focus (refine Or.elim (List.mem_cons.mp hb) (fun y0 => ?_) (fun hb => ?_); subst y0)
  ·simp
  ·exact List.mem_cons_of_mem _ (List.mem_cons_of_mem _ (hsub b hb))
 grefl := fun _ => .inl rfl
 gtrans := fun _ _ _ x y => x.trans y
 frame := fun j s h' tk st htk hk =>
  ⟨Nat.le_trans st.1 htk, let ⟨o, nm, qn, ho, r⟩ := st.2.1; ⟨o, nm, qn, hk a (List.mem_cons_self ..) o ho, r⟩,
   (let ⟨mc, hns, hnn⟩ := st.2.2.1; ⟨mc, hns.at' fun o e => hk cStatics (List.mem_cons_of_mem _ (List.mem_cons_of_mem _ hcs)) o e, hnn⟩),
   let ⟨gs, hgs, hgo⟩ := st.2.2.2; ⟨gs, hgs, fun s'' h1 hal => hgo s'' h1 fun b hb o e => hal b hb o (hk b (List.mem_cons_of_mem _ hb) o e)⟩⟩
 item := fun j s Q E hj st hQ => by
  obtain rfl : j = 0 := by omega
  obtain ⟨h1, hg, hl, gs, hgs, hgo⟩ := st
  refine wpAny_with_toks (Nat.le_refl s.toks) ?_
  refine wpAny_pyNext_genexpQ (P := fun n s₀ s₁ => n = 0 ∧ GenSince C wr s₀ s₁) hh hl hroom hg hgs (hgo _ h1 fun _ _ _ e => e) (fun v s₁ gs' hb hv => ?_) (fun s₁ hp h' hk => ?_)
  ·refine el05 hv fun _ hF y0 => ?_; refine el22 y0 fun h₁ tk₁ y0 => ?_; subst y0; intro hk₁; intro ht₁ hkap
   have haw : a ∉ wr := fun h => haf (hsub a h)
   intro htk
   exact hQ v _ hF ⟨ht₁, let ⟨o, nm, qn, ho, r⟩ := hg; ⟨o, nm, qn, hk₁ a o haC haw ho, r⟩, (let ⟨mc, hns, hnn⟩ := hl; ⟨mc, hns.at' fun o e => hk₁ cStatics o hcC hcw e, hnn⟩), gs', setGen_self (gs := .running) (setGen_self hgs), fun s'' h1 hal => hkap s'' h1 hal⟩
    ⟨fun b o hb e => hk₁ b o (fun h => hb (h ▸ List.mem_cons_self ..)) (fun h => hb (List.mem_cons_of_mem _ h)) e, GenOnlyQ.of ((GenOnly.setGen s g .running).trans (GenOnly.setGen _ g gs')) (setGen_self (gs := .running) (setGen_self hgs)) hb, rfl, rfl, htk⟩
  ·exact absurd hp.1 (Nat.succ_ne_zero 0)
 done := fun s Q E st hQ => by
  obtain ⟨h1, hg, hl, gs, hgs, hgo⟩ := st
  refine wpAny_with_toks (Nat.le_refl s.toks) ?_
  refine wpAny_pyNext_genexpQ (P := fun n s₀ s₁ => n = 0 ∧ GenSince C wr s₀ s₁) hh hl hroom hg hgs (hgo _ h1 fun _ _ _ e => e) (fun v s₁ gs' hb hv => ?_) (fun s₁ hp h' hk => ?_)
  ·refine el05 hv fun _ _ _ ht hkap => ?_
   exact False.elim (hkap s₁ ht fun _ _ _ e => e)
  ·obtain ⟨_, h₁, tk₁, rfl, hk₁⟩ := hp
   intro htk
   exact hQ _ ⟨fun b o hb e => hk b o (hk₁ b o (fun h => hb (h ▸ List.mem_cons_self ..)) (fun h => hb (List.mem_cons_of_mem _ h)) e), GenOnlyQ.of ((GenOnly.setGen s g .running).trans (GenOnly.setGen _ g .finished)) (setGen_self (gs := .running) (setGen_self hgs)) rfl, rfl, rfl, htk⟩
 self := fun _ _ _ _ st hQ => wpAny_pyIter_gen st.2.1 hQ
theorem rep_ {prog : Program} {w : World} {A : Around} {E : Value → Shared → Prop} {Q : Value → Shared → Prop} {s : Shared} {env : Env} {oe : Expr} {c₁ c₂ : Str} {k₁ k₂ : Nat} {p3 p4 p5 p6 : Pos} {pl : Sem Bool} {l y z r : List Nat} (he : MethEq env oe "replace" p3 p6 [.Constant (.str c₁) k₁ p4, .Constant (.str c₂) k₂ p5] pl) (hy : c₁ = ⟨y.toArray⟩) (hz : c₂ = ⟨z.toArray⟩) (hyz : (tx y == tx z) = false) (hr : Txt.replace (tx l) (tx y) (tx z) = tx r) (hl : l.length + (l.length + 1) * z.length ≤ 16777216)
  (h : wpAny (model prog w) A (eval oe env) (fun v s₁ => (∃ t, v = .str (tx l) t) ∧ 1 ≤ s₁.toks ∧ ∀ t' k, s₁.toks ≤ k → Q (.str (tx r) t') { s₁ with toks := k }) E s) : wpAny (model prog w) A (eval (.Call (.Attribute oe "replace" p3) [.Constant (.str c₁) k₁ p4, .Constant (.str c₂) k₂ p5] [] p6) env) Q E s := by
 subst hy hz
 refine MethodCall_ (wpAny_mono h (fun v s₁ q => ?_) fun _ _ x => x) he
 refine el03 q fun y0 => ?_; refine el11 y0 fun t y0 => ?_; subst y0; intro ht₁ hQ
 refine getMethod_builtin (typeIs_str _ _ _) PySem.F.plainAttrs_str PySem.F.slot_str_replace PySem.F.type_str_replace (fun a e => by injection e) ?_
 refine callWith_method1 ?_ (starEach_cons rfl) (backTo_any rfl)
 show wpAny _ _ (spliced ((false, eval (.Constant (.str (tx y)) k₁ p4) env) :: (false, eval (.Constant (.str (tx z)) k₂ p5) env) :: [])) _ _ _
 refine spliced_cons (Constant_str (spliced_cons (Constant_str (spliced_nil ?_))))
 refine wpAny_with_toks (n := s₁.toks) (Nat.le_trans (Nat.le_succ _) (Nat.le_succ _)) (SC.replace (show s₁.toks ≠ 0 by omega) (show s₁.toks + 1 ≠ 0 by omega) (show s₁.toks ≠ s₁.toks + 1 by omega) hyz (by rw [tx_len, tx_len]; exact hl) fun t' k hk => ?_)
 rw [hr]
 exact hQ t' k hk
section
variable {G : Gd} {n : Nat} {env : Env} {ρ : Loc} {ow : Own} {bs : List (List Stmt)} {o : Out}
set_option maxHeartbeats 4000000 in
theorem ex_joingen {x y sep : Str} {elt iter : Expr} {k : Nat} {px p1 p2 p3 p4 p5 p6 : Pos} {scope : Scope} {pl : Sem Bool} {f : Nat → Nat → Option Str} {a c P : Addr} {l r : List Nat} {rest : List Stmt}
  (hk : storable env y = true) (hs : swapsWith (.Call (.Attribute (.Constant (.str sep) k p2) "join" p3) [.GeneratorExp elt [⟨.Name x px, iter, [], 0⟩] scope p6] [] p4) (some (.Name y p1)) p5.line env = pure false)
  (he : MethEq env (.Constant (.str sep) k p2) "join" p3 p4 [.GeneratorExp elt [⟨.Name x px, iter, [], 0⟩] scope p6] pl)
  (hit : Ev G n env ρ ow iter (own a)) (hm : (a, OO.list [.str l]) ∈ ow) (hc : env.code = .ref c) (hC : codeHdIn G.K c P = true) (hp : (P, OO.pit f) ∈ ow) (hf : f p6.line p6.col = none)
  (hco : scope.isCoroutine = false) (hcl : closOk env.cells scope.names = true) (hcell : ∀ y ∈ scope.names, y.2 ≠ .cell) (h0 : scope.names.lookup (".0" : Str) = some NameKind.local) (hx : scope.names.lookup x = some .local) (hkind : scope.kind = .function)
  (hgf : ∀ v, genFold iter env v = pure v)
  (hel : ∀ (cl : List (Str × Addr)) (C : Addr) (code : Value) (bi : Addr) (A' : Around) (E' : Value → Shared → Prop) (t : Tok) (s₂ : Shared) (m₂ : Str → Option Value), 1 ≤ s₂.toks → s₂.heap.Ns C m₂ → m₂ x = some (.str (tx l) t) → wpAny (model G.prog G.w) A' (eval elt (genEnv scope cl C code bi env)) (fun v s₃ => (∃ t', v = .str (tx r) t') ∧ PySem.Keeps s₂ s₃) E' s₂)
  (hsl : sep.length ≤ 1000000) (hr : r.length ≤ 1000000) (h : Ex G n env ((y, .str r) :: ρ) ow (rest :: bs) o) :
  Ex G n env ρ ow ((.Assign [.Name y p1] (.Call (.Attribute (.Constant (.str sep) k p2) "join" p3) [.GeneratorExp elt [⟨.Name x px, iter, [], 0⟩] scope p6] [] p4) p5 :: rest) :: bs) o := .mk fun X A s E R B F => by
 refine wpAny_execs_cons (wpAny_Assign_Name (MethodCall_ (wpAny_mono (Constant_str (Q := fun v s₀ => v = .str sep s.toks ∧ Grow s s₀ ∧ 1 ≤ s₀.toks) ⟨rfl, .toks _ _, Nat.succ_pos _⟩) (fun v s₀ q₀ => ?_) fun _ _ e => e) he) hs)
 refine el03 q₀ fun y0 => ?_; subst y0; intro g₀ ht₀
 refine getMethod_builtin (typeIs_str _ _ _) PySem.F.plainAttrs_str PySem.F.slot_str_join PySem.F.type_str_join (fun a e => by injection e) ?_
 refine callWith_method1 (e := .GeneratorExp elt [⟨.Name x px, iter, [], 0⟩] scope p6) (rest := []) ?_ (starEach_cons rfl) (backTo_any rfl)
 show wpAny _ _ (spliced [(false, eval (.GeneratorExp elt [⟨.Name x px, iter, [], 0⟩] scope p6) env)]) _ _ _
 have F₀ := F.keeps g₀
 refine el13 ((F.owns _ hp).1) fun ps hP htr hrr => ?_
 have hPX := (F.owns _ hp).2
 refine el26 G.T.bmain fun bm ob b1 b2 b3 b4 b5 b6 => ?_
 refine spliced_cons (wpAny_GeneratorExp_make hco (closureFor_is hcl) hcell h0 hkind R.depth (wpAny_mono (wpAny_with_toks (n := 1) ht₀ (wpAny_mono (hit.go X A _ E R F₀) (fun v s₁ q₁ ht => (⟨q₁, ht⟩ : _ ∧ _)) fun _ _ e _ => e)) (fun v s₁ q₁ => ?_) fun _ _ e => e) hgf)
 refine el02 q₁ fun y0 => ?_; obtain ⟨q₁, g₁⟩ := y0; intro ht₁
 refine Rep.eRaw q₁ ?_
 have F₁ := F₀.keeps g₁
 have k₁ : ∀ b o, s.heap.get? b = some o → s₁.heap.get? b = some o := (g₀.trans g₁).heap
 refine el12 ((F₁.owns _ hm).1) fun vs y0 => ?_; refine el11 y0 fun kk hL => ?_; intro ra
 refine el12 ra.one fun v₀ y0 => ?_; subst y0; intro rv
 revert hL; refine Rep.eStr rv fun t₀ hL => ?_
 refine wpAny_with_toks (n := 1) ht₁ (wpAny_pyIter_list ⟨_, hL, rfl, _, rfl⟩ fun ht₂ => ?_)
 have k₂ : ∀ b o, s.heap.get? b = some o → (s₁.heap.push { cls := .type "list_iterator", data := .fields #[.ref a, .int 0 0] }).get? b = some o := fun b o e => Heap.get?_push_of_some _ (k₁ b o e)
 have hst₂ : (s₁.heap.push { cls := .type "list_iterator", data := .fields #[.ref a, .int 0 0] }).IsListIter s₁.heap.objs.size a 0 ∧ (s₁.heap.push { cls := .type "list_iterator", data := .fields #[.ref a, .int 0 0] }).IsList a #[.str (tx l) t₀] := ⟨⟨_, Heap.get?_push_size _ rfl, rfl, rfl⟩, ⟨_, Heap.get?_push_of_some _ hL, rfl, _, rfl⟩⟩
 have hsz₂ : (s₁.heap.push { cls := .type "list_iterator", data := .fields #[.ref a, .int 0 0] }).objs.size = s₁.heap.objs.size + 1 := Heap.size_push ..
 have hax : a < s₁.heap.objs.size := Heap.lt_size hL
 have haP : a ≠ P := fun e => by rw [e, k₁ _ _ hP] at hL; cases hL
 generalize (s₁.heap.push { cls := .type "list_iterator", data := .fields #[.ref a, .int 0 0] }) = h₂ at hst₂ hsz₂ k₂ ⊢
 have C₂ : CodeHd h₂ c P := (codeHd_of_K (G.X.keeps F.base) hC).keeps k₂
 have hcode : wpAny (model G.prog G.w) A (genexprCode env p6 (env.qual ++ "<genexpr>") scope) (fun cv s₃ => ∃ h₃ tk₃, s₃ = { s₁ with heap := h₃, toks := tk₃ } ∧ Heap.ExtBut P h₂ h₃ ∧ h₂.objs.size ≤ h₃.objs.size ∧ ∃ ps', h₃.get? P = some (tabObj ps') ∧ TriplesOk ps'.toList ∧ ∀ pos cv q, codeAmong pos ps'.toList = some cv → f pos.line pos.col = some q → codeAmong pos ps.toList = some cv) E { s₁ with heap := h₂ } := by
  cases hq : codeAmong p6 ps.toList with
  | some cv => exact wpAny_genexprCode_hit hc (C₂.code (k₂ _ _ hP) htr) hq ⟨h₂, s₁.toks, rfl, fun _ _ _ e => e, Nat.le_refl _, ps, k₂ _ _ hP, htr, fun _ _ _ h1 _ => h1⟩
  | none =>
   refine wpAny_genexprCodeX hc (C₂.code (k₂ _ _ hP) htr) (C₂.tab (k₂ _ _ hP)) hq fun c' h' tk' hx hge hlt _ _ htb _ => ⟨h', tk', rfl, hx, Nat.le_trans hge (Nat.le_of_lt hlt), _, htb.2, by rw [Array.toList_append]; exact TriplesOk_snoc _ _ _ _ htr, fun pos cv q h1 h2 => ?_⟩
   rw [Array.toList_append] at h1
   rcases among_app _ htr h1 with h3 | ⟨h3, h4, rfl⟩
   ·exact h3
   ·rw [h3, h4, hf] at h2; injection h2
 have hl₂ : h₂.NoLimit := (G.T.nolimit.keeps F.base).keeps k₂
 refine ⟨hl₂, wpAny_mono (wpAny_with_toks (n := 1) ht₂ (wpAny_mono hcode (fun cv s₃ q₃ ht => (⟨q₃, ht⟩ : _ ∧ _)) fun _ _ e _ => e)) (fun cv s₃ q₃ => ?_) fun _ _ e => e⟩
 refine el02 q₃ fun y0 => ?_; obtain ⟨h₃, tk₃, rfl, hx₃, hsz₃, ps', hP', htr', hpit⟩ := y0; intro ht₃
 have hgs := (G.T.g.keeps F.base).keeps k₂
 have hgP : mainGlobals ≠ P := fun q => by
  refine el33 (G.T.g.keeps F.base) fun o es ep e hd _ => ?_
  rw [q, show s.heap.get? P = _ from hP] at e; (injection e with y0; subst y0); injection hd
 have hbP : bm ≠ P := fun q => by
  have e := F.base _ _ b3
  rw [q, show s.heap.get? P = _ from hP] at e; (injection e with y0; subst y0); injection b4
 have hcP : cStatics ≠ P := fun e => by
  refine el12 hl₂ fun _ y0 => ?_; refine el33 y0 fun o es ep ho hd _ => ?_; intro _
  rw [e, k₂ _ _ hP] at ho; (injection ho with y0; subst y0); injection hd
 have hcs : cStatics < s₁.heap.objs.size := let ⟨_, hn, _⟩ := G.T.nolimit.keeps F₁.base; hn.lt
 have hl₃ : h₃.NoLimit := hl₂.extBut hx₃ hcP
 refine wpAny_builtinsFor (s := { s₁ with heap := h₃, toks := tk₃ }) (by rw [F.gl]; exact hgs.extBut hx₃ hgP) b1 b2 (hx₃ _ _ hbP (k₂ _ _ (F.base _ _ b3))) b4 b5 b6 fun h' hn' hs' => ?_
 have hC : h'.objs.size = h₃.objs.size + 1 := by rw [hs'.1, Heap.size_push]
 have k' : ∀ b o, h₃.get? b = some o → h'.get? b = some o := fun b o e => hs'.extBut b o (Nat.ne_of_lt (Heap.lt_size e)) (Heap.get?_push_of_some _ e)
 have hI₃ : s₁.heap.objs.size < h₃.objs.size := by omega
 refine spliced_nil ?_
 refine SC.joinGen (A := A) (one_walks (A := A.in1.in1) R.hd h'.objs.size s₁.gens.size h₃.objs.size [s₁.heap.objs.size, a, cStatics] [s₁.heap.objs.size] (fun v => ∃ t, v = .str (tx r) t) (by omega) ?_ ?_ R.depth (by simp) (by omega) ?_) (fun _ _ st => st.2.1.typeIs) ?_ ?_ (List.mem_cons_self ..) (fun _ v q => let ⟨t, e⟩ := q; ⟨_, t, e⟩) (fun s' lt hmv hit => ?_)
 ·simp only [List.mem_cons, List.not_mem_nil, or_false]; omega
 ·intro b hb; rw [List.mem_singleton.mp hb]; exact .head _
 ·rw [List.mem_singleton]; omega
 ·have hst₃ : h₃.IsListIter s₁.heap.objs.size a 0 ∧ h₃.IsList a #[.str (tx l) t₀] := ⟨hst₂.1.at fun o e => hx₃ _ o (fun z => by have := Heap.lt_size (k₁ _ _ hP); omega) e, hst₂.2.at fun o e => hx₃ _ o haP e⟩
  refine ⟨Nat.succ_pos _, ⟨_, _, _, Heap.get?_push_size _ rfl, rfl, rfl, rfl⟩, (hl₃.keeps k').push _, _, Array.getElem?_push_size .., fun s'' h1 hal => ⟨rfl, one_start (A := A.in1.in1.in1) (cenv := genEnv scope (closN env.cells scope.names []) h₃.objs.size cv builtinsNs env) (I := s₁.heap.objs.size) (wr := [s₁.heap.objs.size]) (P := fun i v => (#[.str (tx l) t₀] : Array Value)[i]? = some v) (St₀ := fun i h => h.IsListIter s₁.heap.objs.size a i ∧ h.IsList a #[.str (tx l) t₀]) R.hd
   (fun A' hA => (Walks.list hA s₁.heap.objs.size a (Nat.ne_of_lt hax) #[.str (tx l) t₀]).mono_fp fun b hb => ?_) hx (by simp [genEnv, hkind]) hco ?_ (fun A' E' v s₂ m₂ hv h1 hn hm => ?_) s'' s'' _ h1 ?_ (hn'.at' fun o e => hal _ (.head _) o (Heap.get?_push_of_some _ e)) (GenSince.refl _ _ _)⟩⟩
  ·simp only [List.mem_cons, List.not_mem_nil, or_false] at hb ⊢
   refine Or.elim hb (fun e => ?_) (fun e => ?_)
   ·exact .inl e
   ·exact .inr (.inl e)
  ·show h₃.objs.size ∉ _
   simp only [List.mem_cons, List.not_mem_nil, or_false]; omega
  ·(injection hv with y0; subst y0)
   exact hel _ _ _ _ _ _ _ _ _ h1 hn hm
  ·exact ⟨hst₃.1.at fun o e => hal _ (.tail _ (.head _)) o (Heap.get?_push_of_some _ (k' _ o e)), hst₃.2.at fun o e => hal _ (.tail _ (.tail _ (.head _))) o (Heap.get?_push_of_some _ (k' _ o e))⟩
 ·intro b hb
  show b < (h'.push _).objs.size
  rw [Heap.size_push]
  simp only [List.mem_cons, List.not_mem_nil, or_false] at hb
  omega
 ·have hlt : lt.map (·.1) = [tx r] := by
   refine el02 hit fun h1 h2 => ?_
   cases lt with
   | nil => injection h1
   | cons p q =>
    refine el11 (h2 0 (.str p.1 p.2) rfl) fun t e => ?_
    cases q with
    | nil => injection e with e1 _; rw [List.map_cons, e1]; rfl
    | cons _ _ => simp [strValues] at h1
  rw [hlt]
  refine ⟨by
   unfold JoinOk
   rw [Bool.not_eq_true']
   unfold Builtin.Str.tooLong sizeLine
   exact decide_eq_false (by simp [tx_len]; omega), fun t' kk => ?_⟩
  have hj : Txt.join sep [tx r] = tx r := rfl
  rw [hj]
  have up : ∀ b o, b ≠ P → s.heap.get? b = some o → s'.heap.get? b = some o := fun b o hb e => by
   have hb₁ := Heap.lt_size (k₁ b o e)
   refine hmv.heap b o (fun z => ?_) (Heap.get?_push_of_some _ (k' b o (hx₃ b o hb (k₂ b o e))))
   simp only [List.mem_cons, List.not_mem_nil, or_false] at z
   omega
  have hPn : P ∉ [h₃.objs.size, s₁.heap.objs.size] := fun z => by
   have := Heap.lt_size (k₁ _ _ hP)
   simp only [List.mem_cons, List.not_mem_nil, or_false] at z
   omega
  have hpit' : OOIs X s'.heap P (.pit f) := ⟨ps', hmv.heap P _ hPn (Heap.get?_push_of_some _ (k' P _ hP')), htr', fun pos cv q h1 h2 => (hrr pos cv q (hpit pos cv q h1 h2) h2).mono fun b o hb _ e => up b o (fun z => hb (z ▸ hPX)) e⟩
  have gb : GrowBut P s { s' with toks := kk } := ⟨⟨hmv.os.trans (g₀.trans g₁).same.os, fun hb => hmv.gens.bare (AllBare.push ((g₀.trans g₁).same.bare hb) rfl)⟩, up, fun _ _ => own_there hpit'⟩
  refine el02 (F.butAt hp gb hpit') fun F' t'' => ?_
  exact store_any hk F' (.str r t') fun h'' tk' F'' t₃ _ => h.from' R B F'' (t''.trans t₃)
end
end
section
section
variable {G : Gd} {n : Nat} {env : Env} {ρ : Loc} {ow : Own}
theorem evG_around {fe : Expr} {f : Addr} {e : Expr} {pos : Pos} {R₁ R : D → Own → Prop} (hf : Ev G n env ρ ow fe (.raw (.ref f))) (hk : keepIn G.K (.ref f) = true) (ha : EvG G n env ρ ow e R₁) (hs : noStar [e] = true)
  (h : ∀ d₁ w, R₁ d₁ w → ∃ d, FnIs G n (.ref f) [d₁] d ∧ R d w) (hattr : notAttr fe = true) : EvG G n env ρ ow (.Call fe [e] [] pos) R := .mk fun X A s E Rm F => by
 refine Call_ (wpAny_mono (hf.go X A s E Rm F) (fun v s₁ q => ?_) fun _ _ x => x) (call_eq hattr)
 obtain ⟨q, g⟩ := q
 refine Rep.eRaw q ?_
 have F₁ := F.keeps g
 have e0 : backTo pos (starEach [e] env) = (false, eval e env) :: backTo pos (starEach [] env) := by rw [starEach_cons hs]; rfl
 have hall : wpAny (model G.prog G.w) A (spliced (backTo pos (starEach [e] env))) (fun vs s' => ∃ d w X', R₁ d w ∧ NewX X X' s₁.heap ∧ RepAll X' s'.heap vs [d] ∧ Fits G env X' ρ w s' ∧ Turn env ow s₁ s' ∧ (∀ b, Mut env w b → Mut env ow b ∨ s₁.heap.get? b = none)) E s₁ := by
  rw [e0]
  exact spliced_cons (wpAny_mono (ha.go X A s₁ E Rm F₁) (fun v s₂ ⟨d, w, X', r, nx, rep, F', t', hm⟩ => spliced_nil ⟨d, w, X', r, nx, .cons rep .nil, F', t', hm⟩) fun _ _ x => x)
 refine callWith_K (G.X.keeps F₁.base) hk (wpAny_mono hall (fun vs s₂ q₂ => ⟨G.X.keeps (let ⟨_, _, _, _, _, _, F', _⟩ := q₂; F'.base), ?_⟩) fun _ _ x => x) (starEach_cons hs) (backTo_any (noStar_tail hs))
 refine el36 q₂ fun d₁ w X' r nx rep F' t' hm => ?_
 refine el12 (h d₁ w r) fun d hfn hR => ?_
 have old : ∀ b, s₁.heap.get? b = none → s.heap.get? b = none := fun b z => by
  cases e : s.heap.get? b with
  | none => rfl
  | some ob => rw [g.heap b ob e] at z; injection z
 refine wpAny_mono (hfn.go X' A s₂ E vs Rm F'.base F'.live rep) (fun v s₃ q₃ => ?_) fun _ _ x => x
 exact ⟨d, w, X', hR, ⟨nx.sub, fun a q => (nx.new a q).imp id (old a)⟩, q₃.1, F'.keeps q₃.2, (g.turn.trans t').trans q₃.2.turn, fun b q => (hm b q).imp id (old b)⟩
end
end
section
theorem Sub.of_eq {r ρ : Loc} (h : (r.map fun p => ρ.lookup p.1) = r.map fun p => some p.2) : Sub r ρ := fun y e q => List.map_inj_left.mp h _ (mem_of_lookup q)
theorem FSub.of_eq {scope : Scope} {env : Env} {ρ : Loc} : ∀ {r : Loc}, ((r.map fun p => ρ.lookup p.1) = r.map fun p => some p.2) → (r.all fun p => freeIn scope env p.1) = true → FSub scope env r ρ
 | [], _, _ => .nil _
 | p :: r, h, f => .cons (List.map_inj_left.mp h p (.head _)) (List.all_eq_true.mp f p (.head _)) (FSub.of_eq (List.cons.inj h).2 (List.all_eq_true.mpr fun x hx => List.all_eq_true.mp f x (.tail _ hx)))
theorem cmp_ne_bytes {a b : List UInt8} : CmpIs .NotEq (.bytes a) (.bytes b) (a != b) := .mk <| fun prog w X A s E v₁ v₂ hu r₁ r₂ => by
 refine Rep.eBytes r₁ fun _ => ?_; refine Rep.eBytes r₂ fun _ => ?_
 exact ne_bytes ⟨by simp, .refl _⟩
set_option tactic.hygienic true in
theorem cmp_ne_told3 (ls : List (List Nat)) (k : Int) (h : ∀ l ∈ ls, l.length ≤ 1000 ∧ ∀ c ∈ l, c < 0x110000) (hl : ls.length ≤ 100) (hk : k.natAbs < 2 ^ 32) : CmpIs .NotEq (.tup [.list (dstrs ls), .str [], .int k]) (.tup [.list (dstrs ls), .str [], .int k]) false := by
 have hok : pyOk (.tup [.list (dstrs ls), .str [], .int k]) = true := by simp [pyOk, pysOk, ok_strs]
 have hlay : (py (.tup [.list (dstrs ls), .str [], .int k])).layable0 = true := by
  refine el03 (strs_key ls h) fun h1 h2 h3 => ?_
  have hb : (if k == 0 then 0 else k.natAbs.log2 + 1) ≤ 33 := by
   split
   ·exact Nat.zero_le _
   ·rename_i hne
    have hz : k.natAbs ≠ 0 := fun q => hne (by simpa using q)
    have := (Nat.log2_lt hz).mpr hk
    omega
  have he : PyData.strOk (tx []) = true := by unfold PyData.strOk; simp
  have hs : (tx []).cps.size = 0 := rfl
  unfold PyData.layable0
  simp only [py, pys, pys_strs, PyData.canLay0, PyData.canLayAll0, PyData.depth, PyData.depthAll, PyData.weight, PyData.weightAll, h1, h2, he, hs, Bool.true_and, Bool.and_true, Bool.and_eq_true, decide_eq_true_eq]
  omega
 refine cmp_ne_data (b := true) hok hok hlay hlay ?_
 simp [py, pys, pys_strs, PyData.eqv, PyData.eqvAll, eqv_strs]
theorem ex_if_join {G : Gd} {n : Nat} {env : Env} {ρ : Loc} {ow : Own} {bs : List (List Stmt)} {o : Out} {t : Expr} {a b rest : List Stmt} {pos : Pos} {c : Bool} (S : Loc → Own → Prop) (ht : Tst G n env ρ ow t c) (h : ∀ r w, S r w → Ex G n env r w (rest :: bs) o)
  (h₁ : c = true → (∀ r w, S r w → Ex G n env r w (rest :: bs) o) → Ex G n env ρ ow (a :: rest :: bs) o) (h₂ : c = false → (∀ r w, S r w → Ex G n env r w (rest :: bs) o) → Ex G n env ρ ow (b :: rest :: bs) o) : Ex G n env ρ ow ((.If t a b pos :: rest) :: bs) o := ex_if ht (fun e => h₁ e h) fun e => h₂ e h
set_option tactic.hygienic true in
theorem unp_list3 {prog : Program} {w : World} {X : List Addr} {A : Around} {s : Shared} {Q : List Value → Shared → Prop} {E : Value → Shared → Prop} {v : Value} {d₁ d₂ d₃ : D} (hh : A.handled = none) (r : Rep X s.heap v (.list [d₁, d₂, d₃]))
  (hQ : ∀ v₁ v₂ v₃ h' tk, (∀ b o, s.heap.get? b = some o → h'.get? b = some o) → Rep X s.heap v₁ d₁ → Rep X s.heap v₂ d₂ → Rep X s.heap v₃ d₃ → Q [v₁, v₂, v₃] { s with heap := h', toks := tk }) : wpAny (model prog w) A (unpackItems v 3 none) Q E s := by
 refine Rep.eList r fun hl hf ra => ?_
 refine el34 ra.three fun v₁ v₂ v₃ y0 => ?_; subst y0; intro r₁ r₂ r₃
 rename_i t
 have ht : s.heap.IsList t #[v₁, v₂, v₃] := hl.isList
 have hlt : t ≠ s.heap.objs.size := by refine el12 ht fun o ho _ => ?_; exact Nat.ne_of_lt (Heap.lt_size ho)
 unfold unpackItems
 refine wpAny_bind ?_
 unfold notIterableAtAll
 refine wpAny_bind (wpAny_specialOf ht.typeIs slot_list_iter.lookup ?_)
 refine wpAny_pure ?_
 simp only [Bool.false_eq_true, if_false]
 refine wpAny_bind (wpAny_holding (wpAny_pyIter_list ht ?_))
 refine wpAny_bind (wpAny_holding (draw_list hlt 3 0 _ _ ⟨_, Heap.get?_push_size _ rfl, rfl, rfl⟩ (ht.push _) (by simp) fun h₁ hit₁ hs₁ => ?_))
 rw [if_neg (by simp)]
 have ht₁ : h₁.IsList t #[v₁, v₂, v₃] := (ht.push _).extBut hs₁.extBut hlt
 refine wpAny_bind (wpAny_holding (wpAny_pyNext_list_end hh hit₁ ht₁ (by simp) fun h₂ he₂ => ?_))
 simp only [Option.isSome_none, Bool.false_eq_true, if_false]
 exact wpAny_pure (hQ v₁ v₂ v₃ h₂ s.toks (fun b o e => he₂ b o (Nat.ne_of_lt (Heap.lt_size e)) (hs₁.extBut b o (Nat.ne_of_lt (Heap.lt_size e)) (Heap.get?_push_of_some _ e))) r₁ r₂ r₃)
section
variable {G : Gd} {n : Nat} {env : Env} {ρ : Loc} {ow : Own} {bs : List (List Stmt)} {o : Out} {da : Addr}
theorem asgC_list3 {x y z : Str} {px py pz tp : Pos} {k : Nat} {d₁ d₂ d₃ : D} (hx : env.kindOf x = some .local) (hy : env.kindOf y = some .local) (hz : env.kindOf z = some .local) :
  Asg G n env ow (CT env da) (.Tuple [.Name x px, .Name y py, .Name z pz] k tp) (.list [d₁, d₂, d₃]) ρ ((z, d₃) :: (y, d₂) :: (x, d₁) :: ρ) := .mk fun X A s Q E v R F r hQ => by
 have st : ∀ {x : Str}, env.kindOf x = some .local → storable env x = true := fun h => by unfold storable; rw [h]; rfl
 have no : ∀ {x : Str} {q : Prop}, env.kindOf x = some .local → env.kindOf x = some .cell → q := fun h h' => by rw [h] at h'; (injection h' with y0; injection y0)
 rw [arm_assign_Tuple]
 refine wpAny_bind (wpAny_standAt ?_)
 unfold unpack
 show wpAny _ _ (holding [v] (unpackItems v 3 none) >>= fun items => assignInOrder [assign (.Name x px) env, assign (.Name y py) env, assign (.Name z pz) env] items) _ _ _
 refine wpAny_bind (wpAny_holding <| unp_list3 R.hd r fun v₁ v₂ v₃ h' tk k r₁ r₂ r₃ => ?_)
 have g : Grow s { s with heap := h', toks := tk } := .of k
 refine assignInOrder_cons (wpAny_assign_Name (store_any (st hx) (F.keeps g) (r₁.keeps k) fun h₁ t₁ F₁ T₁ k₁ => ?_))
 have r₂' : Rep X h₁ v₂ d₂ := (r₂.keeps k).mono (T₁.sameX (F.keeps g))
 have r₃' : Rep X h₁ v₃ d₃ := (r₃.keeps k).mono (T₁.sameX (F.keeps g))
 refine assignInOrder_cons (wpAny_assign_Name (store_any (st hy) F₁ r₂' fun h₂ t₂ F₂ T₂ k₂ => ?_))
 refine assignInOrder_cons (wpAny_assign_Name (store_any (st hz) F₂ (r₃'.mono (T₂.sameX F₁)) fun h₃ t₃ F₃ T₃ k₃ => assignInOrder_nil ?_))
 exact hQ _ .of (fun b o hb e => k₃ b o (fun q => hb (.inl q)) (no hz) (k₂ b o (fun q => hb (.inl q)) (no hy) (k₁ b o (fun q => hb (.inl q)) (no hx) (k b o e)))) F₃
theorem loops_lmap3 {elt iter : Expr} {x y z : Str} {px py pz tp pos : Pos} {k : Nat} {scope : Scope} {α : Type} {as : List α} (a b c f : α → D) (hx : env.kindOf x = some .local) (hy : env.kindOf y = some .local) (hz : env.kindOf z = some .local) (hl : ρ.lookup x = none) (hl' : ρ.lookup y = none) (hl'' : ρ.lookup z = none)
  (g : D → D) (hg : ∀ t ∈ as, g (.list [a t, b t, c t]) = f t)
  (step : ∀ t ∈ as, ∀ done, Ev G n env ((z, c t) :: (y, b t) :: (x, a t) :: ρ) [(da, .list done)] elt (f t)) : Loops G n env da ρ (.ListComp elt [⟨.Tuple [.Name x px, .Name y py, .Name z pz] k tp, iter, [], 0⟩] scope pos) 0 (.Tuple [.Name x px, .Name y py, .Name z pz] k tp) (as.map fun t => .list [a t, b t, c t]) (as.map f) := by
 have := loops_of (G := G) (n := n) (da := da) (ρ := ρ) (ds := as.map fun t => .list [a t, b t, c t]) (fun d => [g d]) (fun it => turn_one elt (.Tuple [.Name x px, .Name y py, .Name z pz] k tp) iter [] scope pos it (.ref da) env)
  (fun d hd => by
   refine el12 (List.mem_map.mp hd) fun t ht y0 => ?_; subst y0
   refine ⟨(z, c t) :: (y, b t) :: (x, a t) :: ρ, true, fun done => asgC_list3 hx hy hz, ?_, fun done => tsts_nil, fun _ => emit_elt fun done => ?_, fun h => by injection h⟩
   ·intro w e q
    have := sub_tail2 (d := a t) (d' := b t) hl hl' w e q
    rw [List.lookup_cons]
    cases hb : w == z with
    | true => rw [beq_iff_eq.mp hb, hl''] at q; injection q
    | false => exact this
   ·rw [hg t ht]; exact step t ht done)
 rw [flatMap_one, List.map_map] at this
 rwa [show as.map f = as.map (g ∘ fun t => D.list [a t, b t, c t]) from List.map_congr_left fun t ht => (hg t ht).symm]
theorem evG_tup3 {e₁ e₂ e₃ : Expr} {k : Nat} {pos : Pos} {d₁ : D} {R₂ : D → Own → Prop} {R : D → D → Own → Prop} (hs₁ : starless e₁ = true) (hs₂ : starless e₂ = true) (hs₃ : starless e₃ = true) (h₁ : Ev G n env ρ ow e₁ d₁) (h₂ : EvG G n env ρ ow e₂ R₂)
  (h₃ : ∀ d₂ w, R₂ d₂ w → ∃ d₃, Ev G n env ρ w e₃ d₃ ∧ R d₂ d₃ w) : EvG G n env ρ ow (.Tuple [e₁, e₂, e₃] k pos) fun d w => ∃ d₂ d₃, d = .tup [d₁, d₂, d₃] ∧ R d₂ d₃ w := .mk fun X A s E Rm F => by
 refine Tuple_ ?_
 rw [star_eq hs₁, star_eq hs₂, star_eq hs₃]
 refine spliced_cons (wpAny_mono (h₁.go X A s E Rm F) (fun v₁ s₁ q => ?_) fun _ _ x => x)
 obtain ⟨rep₁, g₁⟩ := q
 have F₁ := F.keeps g₁
 refine spliced_cons (wpAny_mono (h₂.go X A s₁ E Rm F₁) (fun v₂ s₂ q => ?_) fun _ _ x => x)
 obtain ⟨d₂, w, X', r, nx, rep₂, F₂, t₂, hm⟩ := q
 refine el12 (h₃ d₂ w r) fun d₃ h₃ hR => ?_
 refine spliced_cons (wpAny_mono (h₃.go X' A s₂ E Rm F₂) (fun v₃ s₃ q => ?_) fun _ _ x => x)
 obtain ⟨rep₃, g₃⟩ := q
 have F₃ := F₂.keeps g₃
 refine spliced_nil (wpAny_newObj_type ?_ (show 3 ≤ sizeLine by decide))
 have hp : ∀ b o, s₃.heap.get? b = some o → (s₃.heap.push { cls := .type "tuple", data := .seq #[v₁, v₂, v₃] }).get? b = some o := fun _ _ e => Heap.get?_push_of_some _ e
 refine ⟨.tup [d₁, d₂, d₃], w, X', ⟨d₂, d₃, rfl, hR⟩, ⟨nx.sub, fun a q => (nx.new a q).imp id (g₁.old a)⟩, .tup ⟨_, Heap.get?_push_size _ rfl, rfl, _, rfl⟩ F₃.live.new ?_, F₃.keeps (.push _ _ _), g₁.turn.trans (t₂.trans (g₃.trans (Grow.push _ _ _)).turn), fun b q => (hm b q).imp id (g₁.old b)⟩
 exact RepAll.keeps (.cons ((rep₁.after F₁ nx t₂).keeps g₃.heap) (.cons (rep₂.keeps g₃.heap) (.cons rep₃ .nil))) fun _ _ e => Heap.get?_push_of_some _ e
theorem ex_if_cmpG {e₁ e₂ : Expr} {op : CmpOp} {p q : Pos} {a b rest : List Stmt} {R : D → Own → Prop} (hm : behindInMarks op e₂ = false) (h₁ : EvG G (n + 8) env ρ ow e₁ R)
  (h : ∀ d₁ w, R d₁ w → ∃ d₂ c, Ev G (n + 8) env ρ w e₂ d₂ ∧ CmpIs op d₁ d₂ c ∧ (c = true → Ex G (n + 8) env ρ w (a :: rest :: bs) o) ∧ (c = false → Ex G (n + 8) env ρ w (b :: rest :: bs) o)) : Ex G (n + 8) env ρ ow ((.If (.Compare e₁ [op] [e₂] p) a b q :: rest) :: bs) o := .mk fun X A s E Rm B F => by
 refine wpAny_execs_cons (wpAny_If (wpAny_isTrue_Compare1 (wpAny_mono (h₁.go X A s E Rm F) (fun v₁ s₁ z => ?_) fun _ _ x => x) hm))
 obtain ⟨d₁, w, X', r, nx, rep₁, F₁, t₁, hmu⟩ := z
 refine el24 (h d₁ w r) fun d₂ c h₂ hc hy hn => ?_
 refine wpAny_mono (h₂.go X' A s₁ E Rm F₁) (fun v₂ s₂ z => ?_) fun _ _ x => x
 obtain ⟨rep₂, g₂⟩ := z
 refine wpAny_mono (hc.go _ _ X' A s₂ E v₁ v₂ (by have := Rm.un; omega) (rep₁.keeps g₂.heap) rep₂) (fun v s₃ z => ?_) fun _ _ x => x
 obtain ⟨rfl, g₃⟩ := z
 refine wpAny_truthy_bool ?_
 have gg := g₂.trans g₃
 cases c with
 | true => exact seq_fork ((hy rfl).from Rm (nx.base B) (F₁.keeps gg) (t₁.trans gg.turn) hmu)
 | false => exact seq_fork ((hn rfl).from Rm (nx.base B) (F₁.keeps gg) (t₁.trans gg.turn) hmu)
theorem evG_cmp {e₁ e₂ : Expr} {op : CmpOp} {p : Pos} {d₁ : D} {R₂ R : D → Own → Prop} (hm : behindInMarks op e₂ = false) (h₁ : Ev G (n + 8) env ρ ow e₁ d₁) (h₂ : EvG G (n + 8) env ρ ow e₂ R₂)
  (h : ∀ d₂ w, R₂ d₂ w → ∃ c, CmpIs op d₁ d₂ c ∧ R (.bool c) w) : EvG G (n + 8) env ρ ow (.Compare e₁ [op] [e₂] p) R := .mk fun X A s E Rm F => by
 refine wpAny_Compare1 (wpAny_mono (h₁.go X A s E Rm F) (fun v₁ s₁ q₁ => ?_) fun _ _ x => x) hm
 obtain ⟨rep₁, g₁⟩ := q₁
 have F₁ := F.keeps g₁
 refine wpAny_mono (h₂.go X A s₁ E Rm F₁) (fun v₂ s₂ z => ?_) fun _ _ x => x
 obtain ⟨d₂, w, X', r, nx, rep₂, F₂, t₂, hmu⟩ := z
 refine el12 (h d₂ w r) fun c hc hR => ?_
 refine wpAny_mono (hc.go _ _ X' A s₂ E v₁ v₂ (by have := Rm.un; omega) (rep₁.after F₁ nx t₂) rep₂) (fun v s₃ z => ?_) fun _ _ x => x
 obtain ⟨rfl, g₃⟩ := z
 exact ⟨.bool c, w, X', hR, ⟨nx.sub, fun a q => (nx.new a q).imp id (g₁.old a)⟩, .bool c, F₂.keeps g₃, (g₁.turn.trans t₂).trans g₃.turn, fun b q => (hmu b q).imp id (g₁.old b)⟩
theorem evG_and {e₁ e₂ : Expr} {p : Pos} {R₁ R : D → Own → Prop} (h₁ : EvG G n env ρ ow e₁ R₁) (h : ∀ d₁ w, R₁ d₁ w → d₁ = .bool true ∧ ∃ d₂, Ev G n env ρ w e₂ d₂ ∧ R d₂ w) : EvG G n env ρ ow (.BoolOp .And [e₁, e₂] p) R := .mk fun X A s E Rm F => by
 refine BoolOp_and (wpAny_mono (h₁.go X A s E Rm F) (fun v₁ s₁ z => ?_) fun _ _ x => x)
 obtain ⟨d₁, w, X', r, nx, rep₁, F₁, t₁, hmu⟩ := z
 obtain ⟨rfl, d₂, h₂, hR⟩ := h d₁ w r
 refine Rep.eBool rep₁ ?_
 refine wpAny_truthy_bool ?_
 rw [if_pos rfl]
 refine BoolOp_one (wpAny_mono (h₂.go X' A s₁ E Rm F₁) (fun v₂ s₂ z => ?_) fun _ _ x => x)
 exact ⟨d₂, w, X', hR, nx, z.1, F₁.keeps z.2, t₁.trans z.2.turn, hmu⟩
end
end
section
section
variable {G : Gd} {n : Nat} {env : Env} {ρ : Loc} {ow : Own} {bs : List (List Stmt)} {o : Out}
theorem ex_if_no {t : Expr} {a b rest : List Stmt} {pos : Pos} (ht : Tst G n env ρ ow t false) (h : Ex G n env ρ ow (b :: rest :: bs) o) : Ex G n env ρ ow ((.If t a b pos :: rest) :: bs) o := ex_if ht (fun h => by injection h) fun _ => h
theorem ex_if_yes {t : Expr} {a b rest : List Stmt} {pos : Pos} (ht : Tst G n env ρ ow t true) (h : Ex G n env ρ ow (a :: rest :: bs) o) : Ex G n env ρ ow ((.If t a b pos :: rest) :: bs) o := ex_if ht (fun _ => h) fun h => by injection h
theorem ex_if_joinE {t : Expr} {a b rest : List Stmt} {pos : Pos} {c : Bool} (ρ₀ : Loc) (w₀ : Own) (ht : Tst G n env ρ ow t c) (h : Ex G n env ρ₀ w₀ (rest :: bs) o)
  (h₁ : c = true → (∀ r w, Sub ρ₀ r → w = w₀ → Ex G n env r w (rest :: bs) o) → Ex G n env ρ ow (a :: rest :: bs) o) (h₂ : c = false → (∀ r w, Sub ρ₀ r → w = w₀ → Ex G n env r w (rest :: bs) o) → Ex G n env ρ ow (b :: rest :: bs) o) : Ex G n env ρ ow ((.If t a b pos :: rest) :: bs) o :=
 have key := fun r w (hr : Sub ρ₀ r) (e : w = w₀) => show Ex G n env r w (rest :: bs) o from e ▸ ex_sub hr h
 ex_if ht (fun e => h₁ e key) fun e => h₂ e key
theorem ex_assignE {x : Str} {px pos : Pos} {e : Expr} {rest : List Stmt} {d₀ : D} {w₀ : Own} (hk : storable env x = true) (hs : swapsWith e (some (.Name x px)) pos.line env = pure false) (he : EvG G n env ρ ow e fun d w => d = d₀ ∧ w = w₀)
  (h : Ex G n env ((x, d₀) :: ρ) w₀ (rest :: bs) o) : Ex G n env ρ ow ((.Assign [.Name x px] e pos :: rest) :: bs) o := ex_assignG hk hs he fun d w q _ => by refine el02 q fun y0 => ?_; subst y0; intro y0; subst y0; exact h
theorem ex_exprE {e : Expr} {pos : Pos} {rest : List Stmt} {d₀ : D} {w₀ : Own} (hi : interactive env = false) (hsw : swapsWith e none pos.line env = pure false) (he : EvG G n env ρ ow e fun d w => d = d₀ ∧ w = w₀)
  (h : Ex G n env ρ w₀ (rest :: bs) o) : Ex G n env ρ ow ((.Expr e pos :: rest) :: bs) o := ex_exprG hi hsw he fun d w q _ => by refine el02 q fun y0 => ?_; subst y0; intro y0; subst y0; exact h
theorem evG_exact {e : Expr} {d₀ : D} {c₀ r : Own} (h : EvG G n env ρ ow e fun d w => ∃ c', (d = d₀ ∧ c' = c₀) ∧ w = c' ++ r) : EvG G n env ρ ow e fun d w => d = d₀ ∧ w = c₀ ++ r := h.weaken fun d w q => by
 refine el12 q fun c' y0 => ?_; refine el02 y0 fun h1 y0 => ?_; subst y0; intro h2
 exact ⟨h1, h2⟩
end
end
set_option compiler.extract_closed false
local macro_rules | `(tactic| walk_at "lk") => `(tactic| first | with_reducible exact lk_here | (focus kernel_rfl!) | ((with_reducible apply lk_next); (focus kernel_rfl); walk_at "lk"))
local macro_rules | `(tactic| walk_at "kr") => `(tactic| (focus kernel_rfl))
local macro_rules | `(tactic| walk_at "subs") => `(tactic| first | (focus ((with_reducible apply Sub.of_eq); (focus kernel_rfl!))) | with_reducible exact Sub.nil _ | ((with_reducible apply Sub.cons); (focus (walk_at "lk")); walk_at "subs") | ((with_reducible apply Sub.cons'); (focus (walk_at "lk")); rotate_left; walk_at "subs"))
local macro_rules | `(tactic| walk_at "fsubs") => `(tactic| first | with_reducible exact FSub.nil _ | (focus ((with_reducible apply FSub.of_eq); (focus kernel_rfl!); (focus kernel_rfl!))) | ((with_reducible apply FSub.cons); (focus (walk_at "lk")); (focus kernel_rfl); walk_at "fsubs"))
local macro_rules | `(tactic| walk_at "K") => `(tactic| focus (rw [(by with_reducible assumption : Gd.K _ = _)]; exact rfl))
local macro_rules | `(tactic| walk_at "n") => `(tactic| first
  | ((with_reducible apply ev_name); (focus (walk_at "lk")); walk_at "kr"; walk_at "kr")
  | ((with_reducible apply ev_glob); walk_at "kr"; (walk_at "K"); walk_at "kr")
  | ((with_reducible apply ev_builtin); walk_at "kr"; (walk_at "K"); (focus exact rfl); (focus decide); walk_at "kr"))
local macro_rules | `(tactic| walk_at "e") => `(tactic| first | exact ev_int | exact ev_neg | exact ev_lit | apply ev_binop | exact bin_add | exact bin_sub | exact bin_mod (by decide) | exact bin_div' (by decide) | exact evAll_nil | exact evp_none | apply evp_some | exact ev_none | exact ev_bool)
local macro_rules | `(tactic| walk_at "c") => `(tactic| first | exact cmp_eq_str | exact cmp_ne_str | exact cmp_eq_int | exact cmp_ne_int | exact cmp_lt_int | exact cmp_le_int | exact cmp_gt_int | exact cmp_ge_int | exact cmp_in_str | exact cmp_in_tup | exact cmp_is_type | exact truth_int | exact truth_bool | apply tst_not)
local macro_rules | `(tactic| walk_at "r") => `(tactic| first | apply ev_item | apply tst_cmp | apply ev_cmp | apply cmp_in_strE | apply tst_plain)
local macro_rules | `(tactic| walk_at "one") => `(tactic| first
  | (with_reducible walk_at "e")
  | (with_reducible walk_at "c")
  | ((with_reducible apply ev_litE); (focus exact rfl))
  | walk_at "n"
  | ((with_reducible apply ev_cut_str); rotate_right)
  | (with_reducible first | apply bin_pow2 | apply bin_pow6 | apply bin_div' | apply bin_mod')
  | ((with_reducible walk_at "r"); (focus exact rfl))
  | ((with_reducible apply evAll_cons); (focus exact rfl)))
set_option compiler.extract_closed true
local macro_rules | `(tactic| ac_rfl) => `(tactic| repeat' (walk_at "one"))
theorem lenk {m n : Nat} (h : Nat.ble m n = true) : m ≤ n := Nat.le_of_ble_eq_true h
theorem clip_nat (n k : Nat) : clipAt n (k : Int) = min k n := by
 have h := clipAt_cast n (k : Int)
 rw [if_neg (Int.not_lt.mpr (Int.natCast_nonneg k))] at h
 omega
theorem clip_neg (n : Nat) {k : Nat} (h : 0 < k) : clipAt n (-(k : Int)) = n - k := by
 have h := clipAt_cast n (-(k : Int))
 rw [if_pos (by omega)] at h
 omega
theorem clip_a (a b : List Nat) : clipAt (a ++ b).length (a.length : Int) = a.length := by rw [clip_nat, List.length_append, Nat.min_eq_left (Nat.le_add_right _ _)]
theorem clip_b (a b : List Nat) (h : 0 < b.length) : clipAt (a ++ b).length (-(b.length : Int)) = a.length := by rw [clip_neg _ h, List.length_append, Nat.add_sub_cancel]
theorem cut_one (w : List Nat) (p : Nat) (h : p ≤ w.length) : cut w (some (p : Int)) (some ((p : Int) + 1)) = (w.drop p).take 1 := by
 have c1 : clipAt w.length (p : Int) = p := by rw [clip_nat, Nat.min_eq_left h]
 have c2 : clipAt w.length ((p : Int) + 1) = min (p + 1) w.length := clip_nat w.length (p + 1)
 unfold cut
 simp only [Option.elim]
 rw [c1, c2]
 by_cases hp : p = w.length
 ·subst hp; simp
 ·have : min (p + 1) w.length - p = 1 := by omega
  rw [this]
noncomputable def isQuote (c : Nat) : Bool := c == 34 || c == 92
noncomputable def escF (c : Nat) : List Nat := if isQuote c then [92, c] else [c]
noncomputable def quoteF (q : Bool) (w : List Nat) : List Nat := if q then 34 :: (w.flatMap escF ++ [34]) else w.flatMap fun c => [92, c]
noncomputable def cutF (k : Nat) : List Nat := if k % 2 = 0 then [32] else [10]
noncomputable def manner (m : Int) (k : Nat) : Bool := m / 2 ^ k % 2 != 0
noncomputable def textF (m : Int) (ws : List (List Nat)) : List Nat := (ws.zipIdx).flatMap fun p => quoteF (manner m p.2) p.1 ++ cutF p.2
section
variable {P : Params} {G : Gd} (hK : G.K = K02 P)
include hK
set_option maxHeartbeats 1000000
theorem alphabet_is : FnIs G 10 (.ref 213) [] (.str (S "ABCDEFGHIJKLMNOPQRSTUVWXYZabcdefghijklmnopqrstuvwxyz0123456789+/")) := by
 refine fn_K hK [] rfl rfl rfl ?_ rfl rfl rfl rfl rfl rfl rfl rfl ?_
 ·intro vs hv; rw [len0 hv]; kernel_rfl
 intro X L
 exact ex_ret ev_lit rfl
end
section
variable {P : Params} {G : Gd} (hK : G.K = K02 P)
include hK
set_option maxHeartbeats 1000000
set_option tactic.hygienic true in
theorem text_is (m : Int) (hm : 0 ≤ m) (ws : List (List Nat)) (hw : ws.length ≤ 8) (hl : ∀ w ∈ ws, w.length ≤ 8) : FnIs G 40 (.ref 225) [.list (dstrs ws), .int m] (.str (textF m ws)) := by
 refine fn_K hK [("words", .list (dstrs ws)), ("manners", .int m)] rfl rfl rfl ?_ rfl rfl rfl rfl rfl rfl rfl rfl ?_
 ·intro vs hv; refine el21 (len2 hv) fun a b y0 => ?_; subst y0; kernel_rfl
 intro X L
 refine ex_assign (d := .str []) (by kernel_rfl) rfl (ev_litE rfl) ?_
 have bound : ∀ i, (((ws.zipIdx).take i).flatMap fun p => quoteF (manner m p.2) p.1 ++ cutF p.2).length ≤ 1000 := fun i => by
  refine Nat.le_trans (flatMap_le _ 100 _ fun p hp => ?_) ?_
  ·have hp' : p.1 ∈ ws := List.fst_mem_of_mem_zipIdx (List.mem_of_mem_take hp)
   have h1 := hl _ hp'
   have h2 : (cutF p.2).length = 1 := by unfold cutF; split <;> rfl
   have h3 : (quoteF (manner m p.2) p.1).length ≤ 2 + p.1.length * 2 := by
    unfold quoteF
    split
    ·have := flatMap_le escF 2 p.1 fun c _ => by unfold escF; split <;> simp
     simp only [List.length_cons, List.length_append, List.length_nil]; omega
    ·have := flatMap_le (fun c => [92, c]) 2 p.1 fun c _ => Nat.le_refl _
     omega
   rw [List.length_append]; omega
  ·rw [List.length_take, List.length_zipIdx]; omega
 refine ex_forP (ds := numbered (dstrs ws)) D.fst D.snd (by kernel_rfl) (by kernel_rfl) (src_mk rfl rfl ?_ (evAll_cons rfl ?_ evAll_nil) mk_enum_list)
  (fun i => [("text", .str (((ws.zipIdx).take i).flatMap fun p => quoteF (manner m p.2) p.1 ++ cutF p.2)), ("manners", .int m)]) (fun _ => []) ?_ OSub.nil (fun _ => rfl) (fun d hd => ?_) ?_ ?_
 iterate 2 (·ac_rfl)
 ·walk_at "subs"
  all_goals rfl
 ·refine el22 (mem_numbered hd) fun i d' _ y0 => ?_; subst y0; exact unp_tup
 ·intro i d hd Y
  refine el12 (numbered_get hd) fun d' h1 y0 => ?_; subst y0
  refine el12 (mem_dstrs (List.mem_of_getElem? h1)) fun w hw' y0 => ?_; subst y0
  have hiw : ws[i]? = some w := by
   simp only [dstrs, List.getElem?_map] at h1
   cases e : ws[i]? with
   | none => rw [e] at h1; injection h1
   | some w' => rw [e] at h1; (injection h1 with y0; injection y0 with y2; subst y2); rfl
  have hi : i < 8 := by have := (List.getElem?_eq_some_iff.mp hiw).1; omega
  have hw8 := hl w hw'
  have hstep : ((ws.zipIdx).take (i + 1)).flatMap (fun p => quoteF (manner m p.2) p.1 ++ cutF p.2) = ((ws.zipIdx).take i).flatMap (fun p => quoteF (manner m p.2) p.1 ++ cutF p.2) ++ quoteF (manner m i) w ++ cutF i := by
   rw [List.take_add_one, List.getElem?_zipIdx, hiw]; simp
  have hb := bound i
  have hb1 := bound (i + 1)
  rw [hstep] at hb1 ⊢
  generalize ((ws.zipIdx).take i).flatMap (fun p => quoteF (manner m p.2) p.1 ++ cutF p.2) = done at hb hb1
  simp only [List.length_append] at hb1
  show Ex G _ _ [("word", .str w), ("k", .int i), ("text", .str done), ("manners", .int m)] _ _ _
  have hp2 : (2 : Int) ^ i ≤ 2 ^ 8 := by
   have : (2 : Nat) ^ i ≤ 2 ^ 8 := Nat.pow_le_pow_right (by decide) (by omega)
   exact_mod_cast this
  have hp1 : (0 : Int) < 2 ^ i := Int.pow_pos (by decide)
  apply ex_if
  ·ac_rfl
   ·omega
   ·exact ⟨hp1, Int.lt_of_le_of_lt hp2 (by decide)⟩
  ·intro hc
   have hc' : manner m i = true := hc
   have hq : quoteF (manner m i) w = 34 :: (w.flatMap escF ++ [34]) := by unfold quoteF; rw [if_pos hc']
   rw [hq] at hb1 ⊢
   refine ex_aug (d := .str (done ++ (34 :: (w.flatMap escF ++ [34])))) (by kernel_rfl) (by kernel_rfl) (by walk_at "lk") (d₂ := .str (34 :: (w.flatMap escF ++ [34]))) ?_ (inc_cat' (by simp only [List.length_cons, List.length_append, List.length_nil] at hb1 ⊢; omega)) ?_
   ·refine ev_eq (d' := .str (([34] ++ joinL [] (w.map escF)) ++ [34])) (ev_binop (ev_binop (ev_litE (l := [34]) rfl) ?_ (bin_cat' ?_)) (ev_litE (l := [34]) rfl) (bin_cat' ?_)) ?_
    ·refine ev_join rfl rfl (ev_litE (l := []) rfl) ?_ ?_
     ·refine ev_comp_signs (ρc := []) escF (fun _ => rfl) rfl rfl rfl rfl (FSub.nil _) ?_ (by omega) (fun C da done c hc => ?_)
      ·ac_rfl
      ·refine ev_if (c := decide (c ∈ [34, 92])) ?_ (fun h => ?_) (fun h => ?_)
       ·ac_rfl
       ·have : escF c = [92] ++ [c] := by
         unfold escF isQuote; simp at h; refine Or.elim h (fun h => ?_) (fun h => ?_) <;> simp [h]
        rw [this]
        refine ev_binop (ev_litE (l := [92]) rfl) ?_ (bin_cat' (by simp))
        ac_rfl
       ·have : escF c = [c] := by unfold escF isQuote; simp at h ⊢; exact h
        rw [this]
        ac_rfl
     ·exact Nat.le_trans (sum_le _ 2 _ fun p hp => by refine el12 (List.mem_map.mp hp) fun c _ y0 => ?_; subst y0; unfold escF; split <;> simp) (by rw [List.length_map]; omega)
    ·rw [joinL_nil, ← List.flatMap_def]; simp only [List.length_cons, List.length_append, List.length_nil] at hb1 ⊢; omega
    ·rw [joinL_nil, ← List.flatMap_def]; simp only [List.length_cons, List.length_append, List.length_nil] at hb1 ⊢; omega
    ·rw [joinL_nil, ← List.flatMap_def]; simp
   ·refine ex_nil ?_
    refine ex_aug (d := .str ((done ++ (34 :: (w.flatMap escF ++ [34]))) ++ cutF i)) (by kernel_rfl) (by kernel_rfl) (by walk_at "lk") (d₂ := .str (cutF i)) (ev_eq (ev_item rfl (ev_litE (l := [32, 10]) rfl) ?_ (item_str0 (i := (i : Int) % 2) ?_ (by decide))) ?_) (inc_cat' (by simp only [List.length_cons, List.length_append, List.length_nil] at hb1 ⊢; omega)) ?_
    ·ac_rfl
    ·show 0 ≤ (i : Int) % 2 ∧ (i : Int) % 2 < ((2 : Nat) : Int); omega
    ·unfold cutF; split
     ·rename_i h; rw [show ((i : Int) % 2).toNat = 0 by omega]; rfl
     ·rename_i h; rw [show ((i : Int) % 2).toNat = 1 by omega]; rfl
    ·refine ex_nil (ex_turn_end ?_ OSub.nil)
     walk_at "subs"
  ·intro hc
   have hc' : manner m i = false := hc
   have hq : quoteF (manner m i) w = w.flatMap fun c => [92, c] := by unfold quoteF; rw [hc']; rfl
   rw [hq] at hb1 ⊢
   refine ex_aug (d := .str (done ++ w.flatMap fun c => [92, c])) (by kernel_rfl) (by kernel_rfl) (by walk_at "lk") (d₂ := .str (w.flatMap fun c => [92, c])) ?_ (inc_cat' (by omega)) ?_
   ·refine ev_eq (d' := .str (joinL [] (w.map fun c => [92, c]))) (ev_join rfl rfl (ev_litE (l := []) rfl) ?_ ?_) ?_
    ·refine ev_comp_signs (ρc := []) (fun c => [92, c]) (fun _ => rfl) rfl rfl rfl rfl (FSub.nil _) ?_ (by omega) (fun C da done c hc => ?_)
     ·ac_rfl
     ·show Ev G _ _ _ _ _ (.str ([92] ++ [c]))
      refine ev_binop (ev_litE (l := [92]) rfl) ?_ (bin_cat' (by simp))
      ac_rfl
    ·exact Nat.le_trans (sum_le _ 2 _ fun p hp => by refine el12 (List.mem_map.mp hp) fun c _ y0 => ?_; subst y0; simp) (by rw [List.length_map]; omega)
    ·rw [joinL_nil, ← List.flatMap_def]
   ·refine ex_nil ?_
    refine ex_aug (d := .str ((done ++ w.flatMap fun c => [92, c]) ++ cutF i)) (by kernel_rfl) (by kernel_rfl) (by walk_at "lk") (d₂ := .str (cutF i)) (ev_eq (ev_item rfl (ev_litE (l := [32, 10]) rfl) ?_ (item_str0 (i := (i : Int) % 2) ?_ (by decide))) ?_) (inc_cat' (by simp only [List.length_append]; omega)) ?_
    ·ac_rfl
    ·show 0 ≤ (i : Int) % 2 ∧ (i : Int) % 2 < ((2 : Nat) : Int); omega
    ·unfold cutF; split
     ·rename_i h; rw [show ((i : Int) % 2).toNat = 0 by omega]; rfl
     ·rename_i h; rw [show ((i : Int) % 2).toNat = 1 by omega]; rfl
    ·refine ex_nil (ex_turn_end ?_ OSub.nil)
     walk_at "subs"
 ·refine ex_ret (d := .str (textF m ws)) (ev_eq (by ac_rfl) ?_) rfl
  rw [numbered_length, show (dstrs ws).length = (ws.zipIdx).length by simp [dstrs], List.take_length]; rfl
end
noncomputable def STOCK : List Nat := S "a*?[]!-.^\"# \\\n"
noncomputable def SIZES : List Int := [14, 13, 12, 11]
noncomputable def drawS (st : Int × List Nat × List Nat) (z : Int) : Int × List Nat × List Nat := (st.1 / z, st.2.1.eraseIdx (st.1 % z).toNat, st.2.2 ++ [st.2.1.getD (st.1 % z).toNat 0])
noncomputable def drawF (n : Int) (i : Nat) : Int × List Nat × List Nat := (SIZES.take i).foldl drawS (n, STOCK, [])
noncomputable def deckF (n : Int) : List Nat := (drawF n 4).2.2
theorem drawF_succ (n : Int) (i : Nat) (z : Int) (h : SIZES[i]? = some z) : drawF n (i + 1) = drawS (drawF n i) z := by
 unfold drawF
 rw [List.take_add_one, h, List.foldl_append]; rfl
structure Drawn (n : Int) (i : Nat) : Prop where
 num : 0 ≤ (drawF n i).1
 len : (drawF n i).2.1.length = 14 - i
 dlen : (drawF n i).2.2.length = i
 perm : ((drawF n i).2.2 ++ (drawF n i).2.1).Perm STOCK
theorem sizes_at {i : Nat} {z : Int} (h : SIZES[i]? = some z) : i < 4 ∧ z = 14 - (i : Int) := by
 rcases i with _ | _ | _ | _ | i <;> cases h <;> exact ⟨by omega, rfl⟩
theorem erase_perm {l : List Nat} {j : Nat} (h : j < l.length) : (l[j] :: l.eraseIdx j).Perm l := by
 have e : l.take j ++ l[j] :: l.drop (j + 1) = l := by rw [← List.drop_eq_getElem_cons h, List.take_append_drop]
 rw [List.eraseIdx_eq_take_drop_succ]
 exact List.perm_middle.symm.trans (.of_eq e)
theorem Drawn.at {n : Int} (hn : 0 ≤ n) : ∀ i, i ≤ 4 → Drawn n i
 | 0, _ => ⟨hn, rfl, rfl, .refl _⟩
 | i + 1, h => by
  obtain ⟨h1, h2, h3, h4⟩ := Drawn.at hn i (by omega)
  have hz : SIZES[i]? = some (14 - (i : Int)) := by
   rcases i with _ | _ | _ | _ | i
   ·rfl
   ·rfl
   ·rfl
   ·rfl
   ·omega
  have e := drawF_succ n i _ hz
  have hp : (0 : Int) < 14 - i := by omega
  have hj : ((drawF n i).1 % (14 - (i : Int))).toNat < (drawF n i).2.1.length := by
   have := Int.emod_lt_of_pos (drawF n i).1 hp
   have := Int.emod_nonneg (drawF n i).1 (Int.ne_of_gt hp)
   omega
  refine ⟨?_, ?_, ?_, ?_⟩ <;> rw [e] <;> unfold drawS
  ·exact Int.ediv_nonneg h1 (by omega)
  ·show (List.eraseIdx _ _).length = _
   rw [List.length_eraseIdx, if_pos hj]; omega
  ·show (_ ++ [_]).length = _
   rw [List.length_append, h3]; rfl
  ·refine .trans ?_ h4
   show (_ ++ [_] ++ List.eraseIdx _ _).Perm _
   rw [List.append_assoc, List.getD_eq_getElem?_getD, List.getElem?_eq_getElem hj]
   refine .append_left _ ?_
   exact erase_perm hj
theorem deck_good {n : Int} (hn : 0 ≤ n) : (deckF n).length = 4 ∧ (deckF n).Nodup ∧ ∀ c ∈ deckF n, c ∈ STOCK := by
 obtain ⟨_, _, h3, h4⟩ := Drawn.at hn 4 (Nat.le_refl _)
 have hn : STOCK.Nodup := by decide
 exact ⟨h3, (List.nodup_append.mp (h4.symm.nodup hn)).1, fun c hc => h4.mem_iff.mp (List.mem_append_left _ hc)⟩
theorem inc_div {a b : Int} (h : 0 < b ∧ b < 1073741824) : IncIs .FloorDiv (.int a) (.int b) (.int (a / b)) := .mk <| fun prog w X A s E v₁ v₂ _ _ r₁ r₂ => by
 refine Rep.eInt r₁ fun _ => ?_; refine Rep.eInt r₂ fun _ => ?_
 refine ifloordiv_int (by omega) ?_ (.inl (PyProof.noPylong_small (by omega)))
 rw [Int.fdiv_eq_ediv_of_nonneg _ (by omega)]
 exact ⟨.int _ _, .toks _ _⟩
section
variable {P : Params} {G : Gd} (hK : G.K = K02 P)
include hK
set_option maxHeartbeats 1000000
theorem deck_is (n : Int) (hn : 0 ≤ n) : FnIs G 40 (.ref 220) [.int n] (.str (deckF n)) := by
 refine fn_K hK [("number", .int n)] rfl rfl rfl ?_ rfl rfl rfl rfl rfl rfl rfl rfl ?_
 ·intro vs hv; refine el11 (len1 hv) fun a y0 => ?_; subst y0; kernel_rfl
 intro X L
 refine ex_pair_swG (R := fun d₁ d₂ w => ∃ a, d₁ = own a ∧ d₂ = .str [] ∧ w = [(a, .list (signs STOCK))]) (by kernel_rfl) (by kernel_rfl) rfl rfl ((evG_tup2 (R := fun d₁ d₂ w => ∃ a, d₁ = own a ∧ d₂ = .str [] ∧ w = [(a, .list (signs STOCK))]) rfl rfl (evG_list_str (l := STOCK) ?_ (ev_litE rfl) rfl rfl (by decide)) ?_)) ?_
 ·ac_rfl
 ·intro d w y0; refine el13 y0 fun a _ y0 => ?_; subst y0; intro y0; subst y0
  refine ⟨fun b h => absurd h List.not_mem_nil, (evG_of (ev_litE rfl)).weaken ?_⟩
  intro d w y0; refine el02 y0 fun y0 => ?_; subst y0; intro y0; subst y0
  exact ⟨a, rfl, rfl, rfl⟩
 intro _ _ _ y0; refine el13 y0 fun a y0 => ?_; subst y0; intro y0; subst y0; intro y0; subst y0; intro _
 refine ex_forN (ds := dints SIZES) (by kernel_rfl) (src_of (d := .tup (dints SIZES)) (ev_tup ?_ (by decide)) iter_tup) (fun i => [("number", .int (drawF n i).1), ("deck", .str (drawF n i).2.2), ("stock", own a)]) (fun i => [(a, .list (signs (drawF n i).2.1))]) ?_ (OSub.refl _) (fun _ => rfl) (fun i d hd Y => ?_) ?_
 ·show EvAll _ _ _ _ _ _ [D.int 14, D.int 13, D.int 12, D.int 11]
  ac_rfl
 ·walk_at "subs"
  all_goals rfl
 ·refine el12 ((by
   simp only [dints, List.getElem?_map] at hd
   cases e : SIZES[i]? with
   | none => rw [e] at hd; cases hd
   | some z => rw [e] at hd; cases hd; exact ⟨z, rfl, rfl⟩) : ∃ z, SIZES[i]? = some z ∧ d = .int z) fun z hz y0 => ?_; subst y0
  have e := drawF_succ n i z hz
  refine el02 (sizes_at hz) fun hi y0 => ?_; subst y0
  obtain ⟨h1, h2, h3, _⟩ := Drawn.at hn i (by omega)
  rw [e]
  generalize drawF n i = st at h1 h2 h3
  obtain ⟨num, sk, dk⟩ := st
  simp only at h1 h2 h3
  have hp : (0 : Int) < 14 - i := by omega
  have hm := Int.emod_lt_of_pos num hp
  have hm0 := Int.emod_nonneg num (Int.ne_of_gt hp)
  have hj : (num % (14 - (i : Int))).toNat < sk.length := by omega
  refine ex_augG (R := fun d w => d = .str [sk.getD (num % (14 - (i : Int))).toNat 0] ∧ w = [(a, .list (signs (sk.eraseIdx (num % (14 - (i : Int))).toNat)))]) (by kernel_rfl) (by kernel_rfl) (d₁ := .str dk) (by walk_at "lk") (evG_pop (i := num % (14 - (i : Int))) (j := (num % (14 - (i : Int))).toNat) (a := a) (ds := signs sk) rfl ?_ ?_ rfl (by omega) ?_ ?_ ?_) ?_
  ·ac_rfl
  ·ac_rfl
   exact hp
  ·rw [signs, List.getElem?_map, List.getD_eq_getElem?_getD, List.getElem?_eq_getElem hj]; rfl
  ·have e2 : signs (sk.eraseIdx (num % (14 - (i : Int))).toNat) = (signs sk).eraseIdx (num % (14 - (i : Int))).toNat := by
    simp [signs, List.eraseIdx_eq_take_drop_succ, List.map_take, List.map_drop]
   rw [e2]; exact .head _
  ·rw [signs, List.length_map]; omega
  intro _ _ y0; refine el02 y0 fun y0 => ?_; subst y0; intro y0; subst y0
  refine ⟨_, inc_cat' (by rw [h3]; show i + 1 ≤ _; omega), ?_⟩
  refine ex_aug (d₁ := .int num) (d₂ := .int (14 - (i : Int))) (by kernel_rfl) (by kernel_rfl) (by walk_at "lk") ?_ (inc_div (by omega)) ?_
  ·ac_rfl
  refine ex_nil (ex_turn_end ?_ (OSub.refl _))
  walk_at "subs"
  all_goals rfl
 ·refine ex_ret (d := .str (deckF n)) ?_ rfl
  show Ev _ _ _ [("number", .int (drawF n 4).1), ("deck", .str (drawF n 4).2.2), ("stock", own a)] _ _ (.str (drawF n 4).2.2)
  ac_rfl
end
noncomputable def isSpec (c : Nat) : Bool := c == 93 || c == 33 || c == 45
noncomputable def bagF (g : List Nat) : List Nat := ((if 93 ∈ g then [93] else []) ++ g.filter fun c => !isSpec c) ++ [33, 45].filter fun c => decide (c ∈ g)
noncomputable def turnF (s : List Nat) : List Nat := if s.headD 0 = 33 then s.reverse else s
noncomputable def loneF (g : List Nat) : Bool := g.length == 1 && !decide (g.headD 0 ∈ [42, 63, 91])
noncomputable def itemF (g : List Nat) : List Nat := if loneF g = true then g else 91 :: (turnF (bagF g) ++ [93])
theorem mem_bag {g : List Nat} {c : Nat} : c ∈ bagF g ↔ c ∈ g := by
 unfold bagF
 rw [List.mem_append, List.mem_append, List.mem_filter, List.mem_filter]
 constructor
 ·rintro ((h | h) | h)
  ·by_cases h93 : 93 ∈ g
   ·rw [if_pos h93] at h; rw [List.mem_singleton.mp h]; exact h93
   ·rw [if_neg h93] at h; cases h
  ·exact h.1
  ·exact of_decide_eq_true h.2
 ·intro h
  cases hs : isSpec c with
  | false => exact .inl (.inr ⟨h, rfl⟩)
  | true =>
   unfold isSpec at hs
   refine Or.elim (Bool.or_eq_true_iff.mp hs) (fun q => ?_) (fun q => ?_)
   ·refine Or.elim (Bool.or_eq_true_iff.mp q) (fun q => ?_) (fun q => ?_)
    ·rw [beq_iff_eq.mp q] at h ⊢; exact .inl (.inl (by rw [if_pos h]; exact List.mem_singleton.mpr rfl))
    ·rw [beq_iff_eq.mp q] at h ⊢; exact .inr ⟨.head _, decide_eq_true h⟩
   ·rw [beq_iff_eq.mp q] at h ⊢; exact .inr ⟨.tail _ (.head _), decide_eq_true h⟩
theorem bag_cases {g : List Nat} (h : (bagF g).headD 0 = 33) : bagF g = [33] ∨ bagF g = [33, 45] := by
 unfold bagF at h ⊢
 by_cases h93 : 93 ∈ g
 ·rw [if_pos h93] at h; (injection h with y0; injection y0 with y2; injection y2 with y4; injection y4 with y6; injection y6 with y8; injection y8 with y10; injection y10 with y12; injection y12 with y14; injection y14 with y16; injection y16 with y18; injection y18 with y20; injection y20 with y22; injection y22 with y24; injection y24 with y26; injection y26 with y28; injection y28 with y30; injection y30 with y32; injection y32 with y34; injection y34 with y36; injection y36 with y38; injection y38 with y40; injection y40 with y42; injection y42 with y44; injection y44 with y46; injection y46 with y48; injection y48 with y50; injection y50 with y52; injection y52 with y54; injection y54 with y56; injection y56 with y58; injection y58 with y60; injection y60 with y62; injection y62 with y64; injection y64)
 ·rw [if_neg h93, List.nil_append] at h ⊢
  cases hf : g.filter fun c => !isSpec c with
  | nil =>
   rw [hf, List.nil_append] at h
   rw [List.nil_append]
   by_cases a : 33 ∈ g <;> by_cases b : 45 ∈ g <;> simp [a, b] at h ⊢
  | cons c r =>
   have hc : c ∈ g.filter fun c => !isSpec c := by rw [hf]; exact .head _
   rw [hf] at h
   rw [show c = 33 from h] at hc
   exact absurd (List.mem_filter.mp hc).2 (by decide)
theorem bag_len (g : List Nat) : (bagF g).length ≤ g.length + 3 := by
 unfold bagF
 rw [List.length_append, List.length_append]
 have h1 := List.length_filter_le (fun c => !isSpec c) g
 have h2 := List.length_filter_le (fun c => decide (c ∈ g)) [33, 45]
 have h3 : (if 93 ∈ g then [93] else [] : List Nat).length ≤ 1 := by split <;> decide
 have h4 : ([33, 45] : List Nat).length = 2 := rfl
 omega
theorem turn_len (s : List Nat) : (turnF s).length = s.length := by unfold turnF; split <;> simp
theorem item_len (g : List Nat) : (itemF g).length ≤ g.length + 5 := by
 unfold itemF
 have := bag_len g
 have := turn_len (bagF g)
 split
 ·omega
 ·rw [List.length_cons, List.length_append, List.length_singleton]; omega
noncomputable def bareS (st : List Nat × Bool) (c : Nat) : List Nat × Bool := if (c == 92 && !st.2) = true then (st.1, true) else (st.1 ++ (if (st.2 && c == 97) = true then [] else [c]), false)
noncomputable def bareR (l : List Nat) : List Nat × Bool := l.foldl bareS ([], false)
theorem bareR_len (l : List Nat) : (bareR l).1.length ≤ l.length := by
 have : ∀ (l : List Nat) (st : List Nat × Bool), (l.foldl bareS st).1.length ≤ st.1.length + l.length := fun l => by
  induction l with
  | nil => exact fun st => Nat.le_refl _
  | cons c l ih =>
   intro st
   refine Nat.le_trans (ih _) ?_
   have : (bareS st c).1.length ≤ st.1.length + 1 := by
    unfold bareS
    split
    ·exact Nat.le_succ _
    ·rw [List.length_append]
     split
     ·exact Nat.le_succ _
     ·exact Nat.le_refl _
   rw [List.length_cons]; omega
 have := this l ([], false)
 rwa [List.length_nil, Nat.zero_add] at this
theorem one_beq (a b : Nat) : ([a] == [b]) = (a == b) := by
 rw [Bool.eq_iff_iff, beq_iff_eq, beq_iff_eq, List.singleton_inj]
theorem cmp_eq_one {a b : Nat} : CmpIs .Eq (.str [a]) (.str [b]) (a == b) := one_beq a b ▸ cmp_eq_str
theorem int_beq (a b : Nat) : ((a : Int) == (b : Int)) = (a == b) := by
 rw [Bool.eq_iff_iff, beq_iff_eq, beq_iff_eq]; exact Int.ofNat_inj
section
variable {P : Params} {G : Gd} (hK : G.K = K02 P)
include hK
set_option maxHeartbeats 2000000
theorem item_is (g : List Nat) (hg : g ≠ []) (hl : g.length ≤ 8) : FnIs G 60 (.ref 230) [.str g] (.str (itemF g)) := by
 refine fn_K hK [("group", .str g)] rfl rfl rfl ?_ rfl rfl rfl rfl rfl rfl rfl rfl ?_
 ·intro vs hv; refine el11 (len1 hv) fun a y0 => ?_; subst y0; kernel_rfl
 intro X L
 refine ex_if (c := loneF g) (tst_and (tstE (tst_cmp (n := 51) rfl (ev_callB (ds := [.str g]) ?_ ?_ rfl (fn_len_str (by omega)) rfl) ev_int cmp_eq_int) (int_beq _ 1)) fun h1 => ?_) (fun h => ?_) fun h => ex_nil ?_
 iterate 2 (·ac_rfl)
 ·refine el11 (len1 (beq_iff_eq.mp h1)) fun c y0 => ?_; subst y0
  refine tstE (tst_and (tst_cmp (n := 51) rfl ?_ (ev_litE (l := [42, 63, 91]) rfl) cmp_notin_str) fun _ => tst_and_nil) (Bool.and_true _)
  show Ev _ _ _ _ _ _ (.str [c])
  ac_rfl
 ·refine ex_ret (d := .str g) ?_ (show D.str g = D.str (itemF g) by rw [itemF, if_pos h])
  ac_rfl
 have hne : bagF g ≠ [] := fun e => by
  refine el21 (List.exists_cons_of_ne_nil hg) fun c r y0 => ?_; subst y0
  have := (mem_bag (c := c)).mpr (List.mem_cons_self (a := c) (l := r))
  rw [e] at this; cases this
 have hbl := bag_len g
 have hF := List.length_filter_le (fun c => !isSpec c) g
 have hQ := List.length_filter_le (fun c => decide (c ∈ g)) [33, 45]
 have hQ2 : ([33, 45] : List Nat).length = 2 := rfl
 refine ex_assign (d := .str (if 93 ∈ g then [93] else [])) (by kernel_rfl) rfl (ev_if (c := decide (93 ∈ g)) (tst_cmp (n := 51) rfl (ev_litE (l := [93]) rfl) ?_ cmp_in_str) (fun h => ?_) fun h => ?_) ?_
 ·ac_rfl
 ·rw [if_pos (of_decide_eq_true h)]; exact ev_litE rfl
 ·rw [if_neg (of_decide_eq_false h)]; exact ev_litE rfl
 have h3 : (if 93 ∈ g then [93] else [] : List Nat).length ≤ 1 := by split <;> decide
 refine ex_aug (d₁ := .str (if 93 ∈ g then [93] else [])) (d₂ := .str (g.filter fun c => !isSpec c)) (by kernel_rfl) (by kernel_rfl) (by walk_at "lk") (ev_join_signs rfl rfl (ev_litE rfl) (ev_filt (ρc := []) (w := g) (fun c => !isSpec c) (fun _ => rfl) rfl rfl rfl rfl (by kernel_rfl) (by kernel_rfl) (FSub.nil _) ?_ (by omega) fun C da done a ha => ?_) (by omega)) (inc_cat' (by omega)) ?_
 ·ac_rfl
 ·refine tst_cmp (n := 51) (d₁ := .str [a]) rfl ?_ (ev_litE (l := [93, 33, 45]) rfl) (cmp_notin_strE ?_)
  ·ac_rfl
  ·simp only [List.mem_cons, List.not_mem_nil, or_false, isSpec, Bool.decide_or, Bool.or_assoc]; rfl
 refine ex_aug (d₁ := .str ((if 93 ∈ g then [93] else []) ++ g.filter fun c => !isSpec c)) (d₂ := .str ([33, 45].filter fun c => decide (c ∈ g))) (by kernel_rfl) (by kernel_rfl) (by walk_at "lk") (ev_join_signs rfl rfl (ev_litE rfl) (ev_filt (ρc := [("group", .str g)]) (w := [33, 45]) (fun c => decide (c ∈ g)) (fun _ => rfl) rfl rfl rfl rfl (by kernel_rfl) (by kernel_rfl) ?_ (ev_litE rfl) (by decide) fun C da done a ha => ?_) (by omega)) (inc_cat' (by rw [List.length_append]; omega)) ?_
 ·walk_at "fsubs"
 ·refine tst_cmp (n := 51) rfl ?_ ?_ cmp_in_str
  iterate 2 (·ac_rfl)
 show Ex G 59 _ [("signs", .str (bagF g)), ("signs", .str _), ("signs", .str _), ("group", .str g)] _ _ _
 have ht := turn_len (bagF g)
 refine ex_ret (d := .str ([91] ++ turnF (bagF g) ++ [93])) (ev_binop (ev_binop (ev_litE (l := [91]) rfl) (ev_if (c := decide ((bagF g).headD 0 = 33)) ?_ (fun h => ?_) fun h => ?_) (bin_cat' ?_)) (ev_litE (l := [93]) rfl) (bin_cat' ?_)) ?_
 ·refine el21 (List.exists_cons_of_ne_nil hne) fun c r hb => ?_
  have hr : (bagF g).length = r.length + 1 := by rw [hb]; rfl
  rw [hb]
  refine tstE (tst_cmp (n := 51) rfl (ev_item0 (c := c) (r := r) rfl ?_ ev_int (by omega)) (ev_litE (l := [33]) rfl) cmp_eq_str) ?_
  ·ac_rfl
  ·show ([c] == [33]) = decide (c = 33)
   rw [one_beq]; rfl
 ·have h' := of_decide_eq_true h
  have e : turnF (bagF g) = (bagF g).reverse := by unfold turnF; rw [if_pos h']
  rw [e]
  refine Or.elim (bag_cases h') (fun hb => ?_) (fun hb => ?_) <;> rw [hb]
  ·refine ev_rev (l := [33]) ?_ ev_neg rfl (by decide)
   ac_rfl
  ·refine ev_rev (l := [33, 45]) ?_ ev_neg rfl (by decide)
   ac_rfl
 ·have e : turnF (bagF g) = bagF g := by unfold turnF; rw [if_neg (of_decide_eq_false h)]
  rw [e]
  ac_rfl
 ·rw [ht, List.length_singleton]; omega
 ·rw [List.length_append, ht, List.length_singleton, List.length_singleton]; omega
 ·show D.str _ = D.str (itemF g)
  rw [itemF, if_neg (by rw [h]; decide)]; rfl
theorem bare_is (l : List Nat) (hl : l.length ≤ 100) : FnIs G 60 (.ref 237) [.str l] (.str (bareR l).1) := by
 refine fn_K hK [("text", .str l)] rfl rfl rfl ?_ rfl rfl rfl rfl rfl rfl rfl rfl ?_
 ·intro vs hv; refine el11 (len1 hv) fun a y0 => ?_; subst y0; kernel_rfl
 intro X L
 refine ex_pair (d := .tup [.str [], .bool false]) (by kernel_rfl) (by kernel_rfl) rfl rfl (ev_tup (evAll_cons rfl (ev_litE rfl) (evAll_cons rfl ev_bool evAll_nil)) (by decide)) unp_tup ?_
 refine ex_forN (ds := signs l) (by kernel_rfl) (src_of ?_ iter_str) (fun i => [("signs", .str (bareR (l.take i)).1), ("shielded", .bool (bareR (l.take i)).2)]) (fun _ => []) ?_ OSub.nil (fun _ => rfl) (fun i d hd Y => ?_) ?_
 ·ac_rfl
 ·walk_at "subs"
  all_goals rfl
 ·refine el12 ((by
   rw [signs, List.getElem?_map] at hd
   cases e : l[i]? with
   | none => rw [e] at hd; cases hd
   | some c => rw [e] at hd; cases hd; exact ⟨c, rfl, rfl⟩) : ∃ c, l[i]? = some c ∧ d = .str [c]) fun c hc y0 => ?_; subst y0
  have e : bareR (l.take (i + 1)) = bareS (bareR (l.take i)) c := by unfold bareR; rw [List.take_add_one, hc, List.foldl_append]; rfl
  have hb := bareR_len (l.take i)
  have hb2 : (l.take i).length ≤ 100 := Nat.le_trans (List.length_take_le' ..) hl
  rw [e]
  generalize bareR (l.take i) = st at hb
  obtain ⟨s, sh⟩ := st
  unfold bareS
  refine ex_if (c := c == 92 && !sh) (tstE (tst_and (tst_cmp (n := 51) (d₁ := .str [c]) rfl ?_ (ev_litE (l := [92]) rfl) cmp_eq_one) fun _ => tst_and (tst_not (tst_plain (d := .bool sh) rfl ?_ truth_bool)) fun _ => tst_and_nil) ?_) (fun h => ?_) fun h => ?_
  iterate 2 (·ac_rfl)
  ·rw [Bool.and_true]
  ·refine ex_assign (d := .bool true) (by kernel_rfl) rfl ev_bool (ex_nil (ex_nil (ex_turn_end ?_ OSub.nil)))
   walk_at "subs"
   all_goals (rw [if_pos h])
  ·refine ex_aug (d₁ := .str s) (d₂ := .str (if (sh && c == 97) = true then [] else [c])) (by kernel_rfl) (by kernel_rfl) (by walk_at "lk") (ev_if (c := sh && c == 97) (tstE (tst_and (tst_plain (d := .bool sh) rfl ?_ truth_bool) fun _ => tst_and (tst_cmp (n := 51) (d₁ := .str [c]) rfl ?_ (ev_litE (l := [97]) rfl) cmp_eq_one) fun _ => tst_and_nil) ?_) (fun h => ?_) fun h => ?_) (inc_cat' ?_) ?_
   iterate 2 (·ac_rfl)
   ·rw [Bool.and_true]
   ·rw [if_pos h]; exact ev_litE rfl
   ·rw [if_neg (by rw [h]; decide)]
    ac_rfl
   ·have : (if (sh && c == 97) = true then [] else [c]).length ≤ 1 := by split <;> exact Nat.le_of_ble_eq_true rfl
    have hs : s.length ≤ 100 := Nat.le_trans hb hb2
    omega
   refine ex_assign (d := .bool false) (by kernel_rfl) rfl ev_bool (ex_nil (ex_nil (ex_turn_end ?_ OSub.nil)))
   walk_at "subs"
   all_goals (rw [if_neg (show ¬ (c == 92 && !sh) = true by rw [h]; decide)])
 ·refine ex_ret (d := .str (bareR l).1) (ev_eq (d' := .str (bareR (l.take (signs l).length)).1) ?_ (by rw [signs, List.length_map, List.take_length])) rfl
  ac_rfl
end
theorem cut_pre (a b : List Nat) (i : Nat) (hi : a.length = i) : cut (a ++ b) none (some (i : Int)) = a := by
 subst hi
 have c1 : clipAt (a ++ b).length (a.length : Int) = a.length := clip_a a b
 unfold cut
 simp only [Option.elim]
 rw [c1]; simp
theorem cut_end (a b : List Nat) (j : Nat) (hj : b.length = j) (h0 : 0 < j) : cut (a ++ b) (some (-(j : Int))) none = b := by
 subst hj
 have c1 : clipAt (a ++ b).length (-(b.length : Int)) = a.length := clip_b a b h0
 unfold cut
 simp only [Option.elim]
 rw [c1, List.drop_left, List.length_append, Nat.add_sub_cancel_left, List.take_length]
theorem itemS {l : List Nat} {i c : Nat} (hc : l[i]? = some c) (h : l.length ≤ 1000000) : ItemIs (.str l) (.int (i : Nat)) (.str [c]) := by
 have hi : i < l.length := by refine Or.elim (Nat.lt_or_ge i l.length) (fun q => ?_) (fun q => ?_); exact q; rw [List.getElem?_eq_none q] at hc; injection hc
 have := item_str0 (l := l) (i := (i : Int)) ⟨by omega, by omega⟩ (by omega)
 have e : l.getD (i : Int).toNat 0 = c := by simp [List.getD, hc]
 rwa [e] at this
theorem cut_pos (a m b : List Nat) (i j : Nat) (hi : a.length = i) (hj : i + m.length = j) : cut (a ++ (m ++ b)) (some (i : Int)) (some (j : Int)) = m := by
 subst hi hj
 have c1 : clipAt (a ++ (m ++ b)).length (a.length : Int) = a.length := clip_a a (m ++ b)
 have c2 : clipAt (a ++ (m ++ b)).length ((a.length + m.length : Nat) : Int) = a.length + m.length := by rw [clip_nat, List.length_append, List.length_append, ← Nat.add_assoc, Nat.min_eq_left (Nat.le_add_right _ _)]
 unfold cut
 simp only [Option.elim]
 rw [c1, c2, List.drop_left, Nat.add_sub_cancel_left, List.take_left]
inductive AtomOk : List Nat × D → Prop
 | dot : AtomOk ([46], .none)
 | esc (c : Nat) : c ≠ 97 → AtomOk ([92, c], .str [c])
 | bare (c : Nat) : c ∈ [97, 33, 34] → AtomOk ([c], .str [c])
 | set (m : List Nat) : m.length ≤ 20 → m ≠ [] → m.headD 0 ≠ 94 → 93 ∉ m.tail → AtomOk (91 :: (m ++ [93]), .str (bareR m).1)
noncomputable def THEAD : List Nat := S "(?s:"
noncomputable def TTAIL : List Nat := S ")\\Z"
noncomputable def textsA (as : List (List Nat × D)) : List Nat := as.flatMap (·.1)
noncomputable def pieceT (as : List (List Nat × D)) : List Nat := THEAD ++ (textsA as ++ TTAIL)
noncomputable def posA (as : List (List Nat × D)) (k : Nat) : Nat := 4 + (textsA (as.take k)).length
theorem AtomOk.len {a : List Nat × D} (h : AtomOk a) : 1 ≤ a.1.length ∧ a.1.length ≤ 22 := by
 cases h with
 | dot => exact ⟨Nat.le_refl _, Nat.le_of_ble_eq_true rfl⟩
 | esc c _ => exact ⟨Nat.le_of_ble_eq_true rfl, Nat.le_of_ble_eq_true rfl⟩
 | bare c _ => exact ⟨Nat.le_refl _, Nat.le_of_ble_eq_true rfl⟩
 | set m h _ _ _ => rw [List.length_cons, List.length_append, List.length_singleton]; omega
theorem texts_split {as : List (List Nat × D)} {k : Nat} {a : List Nat × D} (h : as[k]? = some a) : textsA as = textsA (as.take k) ++ (a.1 ++ textsA (as.drop (k + 1))) ∧ textsA (as.take (k + 1)) = textsA (as.take k) ++ a.1 := by
 unfold textsA
 refine el11 (List.getElem?_eq_some_iff.mp h) fun hk y0 => ?_; subst y0
 constructor
 ·conv => lhs; rw [← List.take_append_drop k as, List.drop_eq_getElem_cons hk]
  rw [List.flatMap_append, List.flatMap_cons]
 ·rw [List.take_add_one, h, List.flatMap_append]
  show _ ++ (_ ++ []) = _
  rw [List.append_nil]
theorem texts_len {as : List (List Nat × D)} (ha : ∀ a ∈ as, AtomOk a) : as.length ≤ (textsA as).length ∧ (textsA as).length ≤ 22 * as.length := by
 induction as with
 | nil => exact ⟨Nat.le_refl _, Nat.le_refl _⟩
 | cons a as ih =>
  have h1 := (ha a (.head _)).len
  have h2 := ih fun b hb => ha b (.tail _ hb)
  show _ ≤ (a.1 ++ textsA as).length ∧ (a.1 ++ textsA as).length ≤ _
  rw [List.length_append, List.length_cons]
  omega
noncomputable def optD : Option (List Nat) → D
 | none => .none
 | some l => .str l
noncomputable def fitF (p : Option (List Nat) × Nat) : Bool := match p.1 with | none => true | some l => decide (p.2 ∈ l)
section
variable {P : Params} {G : Gd} (hK : G.K = K02 P)
include hK
set_option maxHeartbeats 4000000
theorem items_is (as : List (List Nat × D)) (ha : ∀ a ∈ as, AtomOk a) (hl : as.length ≤ 8) : FnIs G 80 (.ref 244) [.str (pieceT as)] (.list (as.map (·.2))) := by
 refine fn_K hK [("text", .str (pieceT as))] rfl rfl rfl ?_ rfl rfl rfl rfl rfl rfl rfl rfl ?_
 ·intro vs hv; refine el11 (len1 hv) fun a y0 => ?_; subst y0; kernel_rfl
 intro X L
 refine el02 (texts_len ha) fun hlo hhi => ?_
 have hT : (pieceT as).length = (textsA as).length + 7 := by
  unfold pieceT
  rw [List.length_append, List.length_append, show THEAD.length = 4 from rfl, show TTAIL.length = 3 from rfl]; omega
 refine ex_pair_swG (R := fun d₁ d₂ w => ∃ a, a ∉ keysOf [] ∧ d₁ = own a ∧ d₂ = .int 4 ∧ w = [(a, .list [])]) (by kernel_rfl) (by kernel_rfl) rfl rfl (evG_tup2 (R := fun d₁ d₂ w => ∃ a, a ∉ keysOf [] ∧ d₁ = own a ∧ d₂ = .int 4 ∧ w = [(a, .list [])]) rfl rfl evG_newlist ?_) ?_
 ·intro d w y0; refine el13 y0 fun a h y0 => ?_; subst y0; intro y0; subst y0
  refine ⟨fun b h => absurd h List.not_mem_nil, (evG_of ev_int).weaken ?_⟩
  intro d w y0; refine el02 y0 fun y0 => ?_; subst y0; intro y0; subst y0
  exact ⟨a, h, rfl, rfl, rfl⟩
 intro _ _ _ y0; refine el14 y0 fun a hna y0 => ?_; subst y0; intro y0; subst y0; intro y0; subst y0; intro hba
 have hab := (hba a (.head _)).resolve_left hna
 have hpos : ∀ k, k < as.length → (textsA (as.take k)).length < (textsA as).length := fun k hk => by
  refine el11 (⟨_, List.getElem?_eq_getElem hk⟩ : ∃ x, as[k]? = some x) fun x hx => ?_
  rw [(texts_split hx).1, List.length_append, List.length_append]
  have := (ha x (List.mem_of_getElem? hx)).len.1
  omega
 refine ex_while (σ := Nat) (fun k => [("place", .int (posA as k : Nat)), ("items", own a), ("text", .str (pieceT as))]) (fun k => [(a, .list ((as.take k).map (·.2)))]) (fun k => k ≤ as.length) (fun k => as.length - k) (fun k => decide (k < as.length)) 0 (Nat.zero_le _) ?_ (OSub.refl _) (fun _ => rfl) (fun k hk => ?_) (fun k hk hc => ?_) fun k hk hc => ?_
 ·walk_at "subs"
  all_goals rfl
 ·refine tstE (tst_cmp (n := 71) (d₁ := .int (posA as k : Nat)) rfl ?_ (ev_binop (ev_callB (ds := [.str (pieceT as)]) ?_ ?_ rfl (fn_len_str (by omega)) rfl) ev_int bin_sub) cmp_lt_int) ?_
  iterate 3 (·ac_rfl)
  ·rw [hT, decide_eq_decide]
   unfold posA
   constructor
   ·intro h
    refine Or.elim (Nat.lt_or_ge k as.length) (fun q => ?_) (fun q => ?_)
    ·exact q
    ·rw [List.take_of_length_le q] at h; omega
   ·intro h; have := hpos k h; omega
 ·have hk1 := of_decide_eq_true hc
  refine el11 (⟨_, List.getElem?_eq_getElem hk1⟩ : ∃ x, as[k]? = some x) fun x hx => ?_
  refine el02 (texts_split hx) fun hs1 hs2 => ?_
  have hxk := ha x (List.mem_of_getElem? hx)
  have hxl := hxk.len
  have hp1 : posA as (k + 1) = posA as k + x.1.length := by unfold posA; rw [hs2, List.length_append]; omega
  have hsplit : pieceT as = (THEAD ++ textsA (as.take k)) ++ (x.1 ++ (textsA (as.drop (k + 1)) ++ TTAIL)) := by
   unfold pieceT; rw [hs1]; simp only [List.append_assoc]
  have hpl : (THEAD ++ textsA (as.take k)).length = posA as k := by rw [List.length_append]; rfl
  have hpb : posA as k + x.1.length + 3 ≤ (pieceT as).length := by
   have h1 := congrArg List.length hsplit
   have h2 := hpl
   have h3 : TTAIL.length = 3 := rfl
   simp only [List.length_append] at h1 h2
   omega
  have at_ : ∀ j c, x.1[j]? = some c → (pieceT as)[posA as k + j]? = some c := fun j c h => by
   rw [hsplit, ← hpl, List.getElem?_append_right (Nat.le_add_right _ _), Nat.add_sub_cancel_left, List.getElem?_append_left (List.getElem?_eq_some_iff.mp h).1]; exact h
  have hits : (as.take (k + 1)).map (·.2) = (as.take k).map (·.2) ++ [x.2] := by rw [List.take_add_one, hx, List.map_append]; rfl
  have hil : ((as.take k).map (·.2)).length ≤ sizeLine := small (by rw [List.length_map]; exact Nat.le_trans (List.length_take_le ..) (by omega))
  refine el11 (⟨_, List.getElem?_eq_getElem (by omega)⟩ : ∃ c0, x.1[0]? = some c0) fun c0 hc0 => ?_
  refine ex_assign (d := .str [c0]) (by kernel_rfl) rfl (ev_item rfl ?_ ?_ (itemS (i := posA as k) (at_ 0 c0 hc0) (by omega))) ?_
  iterate 2 (·ac_rfl)
  refine ex_if_join (c := c0 == 91) (S := fun r w => ∃ q : Nat, r.lookup ("place" : Str) = some (.int q) ∧ r.lookup ("items" : Str) = some (own a) ∧ r.lookup ("text" : Str) = some (.str (pieceT as)) ∧ q + 1 = posA as (k + 1) ∧ w = [(a, .list ((as.take (k + 1)).map (·.2)))]) (tst_cmp (n := 71) rfl ?_ (ev_litE (l := [91]) rfl) cmp_eq_one) ?_ (fun h key => ?_) fun h key => ?_
  ·ac_rfl
  ·intro _ _ y0; refine el15 y0 fun q h1 h2 h3 h4 y0 => ?_; subst y0
   refine ex_aug (d₁ := .int q) (d₂ := .int 1) (d := .int (q + 1)) (by kernel_rfl) (by kernel_rfl) h1 ev_int inc_add (ex_nil (ex_end ⟨k + 1, hk1, by omega, ?_, OSub.refl _⟩))
   refine Sub.cons ?_ (Sub.cons (lk_next (by kernel_rfl) h2) (Sub.cons (lk_next (by kernel_rfl) h3) (Sub.nil _)))
   rw [← h4]; exact lk_here
  ·cases hxk with
   | dot => (injection hc0 with y0; subst y0); injection h
   | esc c _ => (injection hc0 with y0; subst y0); injection h
   | bare c hb => (injection hc0 with y0; subst y0); rw [beq_iff_eq.mp h] at hb; exact absurd hb (by decide)
   | set m hm1 hm2 hm3 hm4 =>
    refine el21 (List.exists_cons_of_ne_nil hm2) fun m0 mr y0 => ?_; subst y0
    have g0 : (pieceT as)[posA as k + 1]? = some m0 := at_ 1 m0 rfl
    have hml : ((91 : Nat) :: (m0 :: mr ++ [93])).length = mr.length + 3 := by simp
    rw [hml] at hpb hp1
    have gm : ∀ j, j < mr.length → (pieceT as)[posA as k + (2 + j)]? ≠ some 93 := fun j hj => by
     refine el11 (⟨_, List.getElem?_eq_getElem hj⟩ : ∃ y, mr[j]? = some y) fun y hy => ?_
     rw [at_ (2 + j) y (by rw [show 2 + j = j + 1 + 1 by omega, List.getElem?_cons_succ, List.cons_append, List.getElem?_cons_succ, List.getElem?_append_left hj]; exact hy)]
     exact fun e => hm4 (Option.some.inj e ▸ List.mem_of_getElem? hy)
    have ge : (pieceT as)[posA as k + (mr.length + 2)]? = some 93 := at_ (mr.length + 2) 93 (by
     rw [show mr.length + 2 = mr.length + 1 + 1 by omega, List.getElem?_cons_succ, List.cons_append, List.getElem?_cons_succ, List.getElem?_append_right (Nat.le_refl _), Nat.sub_self]; rfl)
    refine ex_assign (d := .int (posA as k + (mr.length + 2) : Nat)) (by kernel_rfl) rfl (ev_meth (id := "str.index") (d₀ := .str (pieceT as)) (ds := [.str [93], .int (posA as k + 2 : Nat)]) ?_ (meth_str F.slot_str_index F.type_str_index) (evAll_cons rfl (ev_litE rfl) (evAll_cons rfl (ev_eq (d' := .int ((posA as k : Nat) + 2)) ?_ rfl) evAll_nil)) rfl (fn_index_from (by omega) ge fun j h1 h2 => ?_) rfl) ?_
    iterate 2 (·ac_rfl)
    ·have := gm (j - (posA as k + 2)) (by omega)
     rwa [show posA as k + (2 + (j - (posA as k + 2))) = j by omega] at this
    refine ex_append (a := a) (ds := (as.take k).map (·.2)) (d := .str (bareR (m0 :: mr)).1) ?_ (OSet.head _) (evAll_cons rfl (ev_if (c := false) (tstE (tst_cmp (n := 71) rfl (ev_item rfl ?_ ?_ (itemS (i := posA as k + 1) g0 (by omega))) (ev_litE (l := [94]) rfl) cmp_eq_one) (beq_eq_false_iff_ne.mpr hm3)) (fun h => by injection h) fun _ => ?_) evAll_nil) rfl hil rfl rfl rfl ?_
    iterate 2 (·ac_rfl)
    ·refine ev_eq (d' := .int ((posA as k : Nat) + 1)) ?_ rfl
     ac_rfl
    ·refine ev_call (f := 237) (ds := [.str (m0 :: mr)]) ?_ (by rw [hK]; kernel_rfl) (evAll_cons rfl (ev_eq (ev_cut_str (l := pieceT as) (i := some ((posA as k + 1 : Nat) : Int)) (j := some ((posA as k + (mr.length + 2) : Nat) : Int)) ?_ (evp_some (ev_eq (d' := .int ((posA as k : Nat) + 1)) ?_ rfl)) (evp_some ?_) (small (by omega))) ?_) evAll_nil) rfl ((bare_is hK (m0 :: mr) (Nat.le_trans hm1 (by decide))).le (by decide)) rfl
     iterate 4 (·ac_rfl)
     ·have e : pieceT as = ((THEAD ++ textsA (as.take k)) ++ [91]) ++ ((m0 :: mr) ++ ([93] ++ (textsA (as.drop (k + 1)) ++ TTAIL))) := by
       rw [hsplit]; simp
      rw [e, cut_pos _ _ _ _ _ (by rw [List.length_append, hpl]; rfl) (by rw [List.length_cons]; omega)]
    refine ex_assign (d := .int (posA as k + (mr.length + 2) : Nat)) (by kernel_rfl) rfl ?_ ?_
    ·ac_rfl
    refine ex_nil (key _ _ ⟨posA as k + (mr.length + 2), ?_, ?_, ?_, by omega, by rw [hits]⟩)
    ·walk_at "lk"
    ·walk_at "lk"
    ·walk_at "lk"
  ·refine ex_if (c := c0 == 92) (tst_cmp (n := 71) rfl ?_ (ev_litE (l := [92]) rfl) cmp_eq_one) (fun h2 => ?_) fun h2 => ?_
   ·ac_rfl
   ·cases hxk with
    | dot => (injection hc0 with y0; subst y0); injection h2
    | bare c hb => (injection hc0 with y0; subst y0); rw [beq_iff_eq.mp h2] at hb; exact absurd hb (by decide)
    | set m _ _ _ _ => (injection hc0 with y0; subst y0); injection h2
    | esc c hc97 =>
     have g1 : (pieceT as)[posA as k + 1]? = some c := at_ 1 c rfl
     refine ex_aug (d₁ := .int (posA as k : Nat)) (d₂ := .int 1) (d := .int (posA as k + 1 : Nat)) (by kernel_rfl) (by kernel_rfl) (by walk_at "lk") ev_int inc_add ?_
     refine ex_append (a := a) (ds := (as.take k).map (·.2)) (d := .str [c]) ?_ (OSet.head _) (evAll_cons rfl (ev_replace_none (c := 97) (z := []) rfl rfl (ev_item rfl ?_ ?_ (itemS (i := posA as k + 1) g1 (by omega))) (ev_litE rfl) (ev_litE rfl) ?_) evAll_nil) rfl hil rfl rfl rfl ?_
     iterate 3 (·ac_rfl)
     ·exact fun e => hc97 (List.mem_singleton.mp e).symm
     refine ex_nil (ex_nil (key _ _ ⟨posA as k + 1, ?_, ?_, ?_, by rw [hp1]; rfl, by rw [hits]⟩))
     ·walk_at "lk"
     ·walk_at "lk"
     ·walk_at "lk"
   ·refine ex_if (c := c0 == 46) (tst_cmp (n := 71) rfl ?_ (ev_litE (l := [46]) rfl) cmp_eq_one) (fun h3 => ?_) fun h3 => ?_
    ·ac_rfl
    ·cases hxk with
     | esc c _ => (injection hc0 with y0; subst y0); injection h2
     | bare c hb => (injection hc0 with y0; subst y0); rw [beq_iff_eq.mp h3] at hb; exact absurd hb (by decide)
     | set m _ _ _ _ => (injection hc0 with y0; subst y0); injection h
     | dot =>
      refine ex_append (a := a) (ds := (as.take k).map (·.2)) (d := .none) ?_ (OSet.head _) (evAll_cons rfl ev_none evAll_nil) rfl hil rfl rfl rfl ?_
      ·ac_rfl
      refine ex_nil (ex_nil (ex_nil (key _ _ ⟨posA as k, ?_, ?_, ?_, by rw [hp1]; rfl, by rw [hits]⟩)))
      ·walk_at "lk"
      ·walk_at "lk"
      ·walk_at "lk"
    ·cases hxk with
     | dot => (injection hc0 with y0; subst y0); injection h3
     | esc c _ => (injection hc0 with y0; subst y0); injection h2
     | set m _ _ _ _ => (injection hc0 with y0; subst y0); injection h
     | bare c hb =>
      (injection hc0 with y0; subst y0)
      refine ex_append (a := a) (ds := (as.take k).map (·.2)) (d := .str [c]) ?_ (OSet.head _) (evAll_cons rfl (ev_if (c := true) (tst_cmp (n := 71) rfl ?_ (ev_litE (l := [97, 33, 34]) rfl) (cmp_in_strE (decide_eq_true hb))) (fun _ => ?_) fun h => by injection h) evAll_nil) rfl hil rfl rfl rfl ?_
      iterate 3 (·ac_rfl)
      refine ex_nil (ex_nil (ex_nil (key _ _ ⟨posA as k, ?_, ?_, ?_, by rw [hp1]; rfl, by rw [hits]⟩)))
      ·walk_at "lk"
      ·walk_at "lk"
      ·walk_at "lk"
 ·have hkk : k = as.length := Nat.le_antisymm hk (Nat.not_lt.mp (of_decide_eq_false hc))
  subst hkk
  rw [List.take_length]
  show Ex G 79 _ [("place", .int (posA as as.length : Nat)), ("items", own a), ("text", .str (pieceT as))] _ _ _
  refine ex_freeze_head "items" (a := a) (ds := as.map (·.2)) (lk_next (by kernel_rfl) lk_here) hab ?_
  refine ex_ret (d := .list (as.map (·.2))) (ev_if (c := true) (tst_cmp (n := 71) (d₁ := .str (THEAD ++ TTAIL)) rfl (ev_binop (ev_eq (ev_cut_str (l := pieceT as) (i := none) (j := some 4) ?_ evp_none (evp_some ev_int) (small (by omega))) ?_) (ev_eq (ev_cut_str (l := pieceT as) (i := some (-3)) (j := none) ?_ (evp_some ev_neg) evp_none (small (by omega))) ?_) (bin_cat' (by decide))) (ev_litE (l := S "(?s:)\\Z") rfl) cmp_eq_str) (fun _ => ?_) fun h => by injection h) rfl
  ·ac_rfl
  ·exact congrArg D.str (cut_pre THEAD _ 4 rfl)
  ·ac_rfl
  ·have : pieceT as = (THEAD ++ textsA as) ++ TTAIL := by unfold pieceT; rw [List.append_assoc]
   rw [this]
   exact congrArg D.str (cut_end _ TTAIL 3 rfl (by decide))
  ·ac_rfl
theorem fits_is (its : List (Option (List Nat))) (w : List Nat) (hl : its.length = w.length) (hw : w.length ≤ 8) : FnIs G 60 (.ref 251) [.list (its.map optD), .str w] (.bool ((its.zip w).all fitF)) := by
 refine fn_K hK [("items", .list (its.map optD)), ("word", .str w)] rfl rfl rfl ?_ rfl rfl rfl rfl rfl rfl rfl rfl ?_
 ·intro vs hv; refine el21 (len2 hv) fun a b y0 => ?_; subst y0; kernel_rfl
 intro X L
 have hzl : (zipped (its.map optD) (signs w)).length = (its.zip w).length := by rw [zipped_length, List.length_map, signs, List.length_map, List.length_zip]
 refine ex_forP (ds := zipped (its.map optD) (signs w)) D.fst D.snd (by kernel_rfl) (by kernel_rfl) (src_mk rfl rfl ?_ (evAll_cons rfl ?_ (evAll_cons rfl ?_ evAll_nil)) (mk_zip side_list side_str))
  (fun i => guardL (((its.zip w).take i).all fitF = true) [("items", .list (its.map optD)), ("word", .str w)]) (fun _ => []) ?_ OSub.nil (fun _ => rfl) (fun d hd => ?_) (fun i d hd Y => ?_) ?_
 iterate 3 (·ac_rfl)
 ·refine sub_guard rfl ?_
  walk_at "subs"
 ·obtain ⟨u, _, v, _, rfl⟩ := mem_zipped hd; exact unp_tup
 ·refine el23 (zipped_get hd) fun u v hu hv y0 => ?_; subst y0
  refine el12 ((by
   rw [List.getElem?_map] at hu
   cases e : its[i]? with
   | none => rw [e] at hu; cases hu
   | some x => rw [e] at hu; cases hu; exact ⟨x, rfl, rfl⟩) : ∃ it, its[i]? = some it ∧ u = optD it) fun it hit y0 => ?_; subst y0
  refine el12 ((by
   rw [signs, List.getElem?_map] at hv
   cases e : w[i]? with
   | none => rw [e] at hv; cases hv
   | some x => rw [e] at hv; cases hv; exact ⟨x, rfl, rfl⟩) : ∃ c, w[i]? = some c ∧ v = .str [c]) fun c hc y0 => ?_; subst y0
  have hz : (its.zip w)[i]? = some (it, c) := List.getElem?_zip_eq_some.mpr ⟨hit, hc⟩
  refine ex_guard2 (by kernel_rfl) (by kernel_rfl) fun hg => ?_
  show Ex G 59 _ [("sign", .str [c]), ("item", optD it), ("items", .list (its.map optD)), ("word", .str w)] _ _ _
  refine ex_if (c := !fitF (it, c)) ?_ (fun h => ?_) fun h => ?_
  ·cases it with
   | none =>
    refine tst_and_no (tst_cmp (n := 51) (d₁ := .none) rfl ?_ ev_none (cmp_isnot_none rfl))
    exact ev_name (lk_next (by kernel_rfl) lk_here) (by kernel_rfl) (by kernel_rfl)
   | some l =>
    refine tst_and_yes (tst_cmp (n := 51) (d₁ := .str l) rfl ?_ ev_none (cmp_isnot_none rfl)) (tstE (tst_and (tst_cmp (n := 51) (d₁ := .str [c]) (d₂ := .str l) rfl ?_ ?_ cmp_notin_str) fun _ => tst_and_nil) (Bool.and_true _))
    ·exact ev_name (lk_next (by kernel_rfl) lk_here) (by kernel_rfl) (by kernel_rfl)
    ·ac_rfl
    ·exact ev_name (lk_next (by kernel_rfl) lk_here) (by kernel_rfl) (by kernel_rfl)
  ·refine ex_ret (d := .bool false) ev_bool ?_
   show D.bool false = D.bool _
   rw [List.all_eq_false.mpr ⟨_, List.mem_of_getElem? hz, by simpa using h⟩]
  ·refine ex_nil (ex_nil (ex_turn_end (sub_guard ?_ ?_) OSub.nil))
   ·rw [List.take_add_one, hz, List.all_append, hg, Bool.true_and]
    show (fitF (it, c) && true) = true
    rw [Bool.and_true]; simpa using h
   ·walk_at "subs"
 ·refine ex_guard0 fun hg => ?_
  rw [hzl, List.take_length] at hg
  refine ex_ret (d := .bool true) (ev_eq (ev_cmp (n := 51) rfl (ev_callB (ds := [.list (its.map optD)]) ?_ ?_ rfl (fn_len_list (by rw [List.length_map]; omega)) rfl) (ev_callB (ds := [.str w]) ?_ ?_ rfl (fn_len_str (by omega)) rfl) cmp_eq_int) ?_) (show D.bool true = D.bool _ by rw [hg])
  iterate 4 (·ac_rfl)
  ·rw [List.length_map, hl]; simp
end
section
variable {P : Params} {G : Gd} (hK : G.K = K02 P)
noncomputable def specialF (c : Nat) : Bool := (S "()[]{}?*+-|^$\\.&~# \t\n\r\x0b\x0c").contains c
noncomputable def reescF (c : Nat) : List Nat := if specialF c then [92, c] else [c]
theorem specials_dict : isIntDict (K02 P) 175 = true := by kernel_rfl
theorem specials_find (c : Nat) (hc : c ∈ STOCK) : (specialF c = true ∧ ∃ t, findBy Value.isInt (dictEs (K02 P) 175) (c : Int) = some (.str (tx [92, c]) t)) ∨ (specialF c = false ∧ findBy Value.isInt (dictEs (K02 P) 175) (c : Int) = none) := by
 have e : c ∈ [97, 33, 34] ∨ c ∈ [42, 63, 91, 93, 45, 46, 94, 35, 32, 92, 10] := by revert c; decide
 refine Or.elim e (fun e => ?_) (fun e => ?_)
 ·refine .inr ?_
  simp only [List.mem_cons, List.not_mem_nil, or_false] at e
  rcases e with rfl | rfl | rfl <;> exact ⟨rfl, rfl⟩
 ·refine .inl ?_
  simp only [List.mem_cons, List.not_mem_nil, or_false] at e
  rcases e with rfl | rfl | rfl | rfl | rfl | rfl | rfl | rfl | rfl | rfl | rfl <;> exact ⟨rfl, _, rfl⟩
include hK
set_option maxHeartbeats 1000000
theorem escape_is (c : Nat) (hc : c ∈ STOCK) : FnIs G 40 (.ref 185) [.str [c]] (.str (reescF c)) := by
 have hc1 : c < 128 := by revert c; decide
 refine fn_K hK [("pattern", .str [c])] rfl rfl rfl ?_ rfl rfl rfl rfl rfl rfl rfl rfl ?_
 ·intro vs hv; refine el11 (len1 hv) fun a y0 => ?_; subst y0; kernel_rfl
 intro X L
 refine ex_if (c := true) (tst_plain (d := .bool true) rfl (ev_callB (id := "isinstance") (ds := [.str [c], .raw (.type "str")]) ?_ ?_ rfl tst_isinstance_str rfl) truth_bool) (fun _ => ?_) (fun h => by injection h)
 iterate 2 (·ac_rfl)
 refine ex_ret (d := .str (reescF c)) (ev_meth (d₀ := .str [c]) (ds := [.raw (.ref 175)]) ?_ (meth_str F.slot_str_translate F.type_str_translate) (evAll_cons rfl ?_ evAll_nil) rfl ?_ rfl) rfl
 iterate 2 (·ac_rfl)
 ·rcases specials_find (P := P) c hc with ⟨e, h⟩ | ⟨e, h⟩
  ·have e2 : reescF c = [92, c] := by unfold reescF; rw [e]; rfl
   rw [e2]
   exact fn_translate_text hc1 (by rw [hK]; exact specials_dict) (by rw [hK]; exact h)
  ·have e2 : reescF c = [c] := by unfold reescF; rw [e]; rfl
   rw [e2]
   exact fn_translate_keep hc1 (by decide) (by rw [hK]; exact specials_dict) (by rw [hK]; exact h)
end
noncomputable def dblF (c : Nat) : List Nat := if c = 92 then [92, 92] else if c = 45 then [92, 45] else [c]
noncomputable def escM (m : List Nat) : List Nat := m.flatMap dblF
noncomputable def stuffF (m : List Nat) : List Nat := if (escM m).headD 0 ∈ [94, 91] then 92 :: escM m else escM m
structure SetOk (m : List Nat) : Prop where
 len : m.length ≤ 8
 signs : ∀ c ∈ m, c ∈ STOCK
 head : ∃ c r, m = c :: r ∧ c ≠ 33 ∧ 93 ∉ r
 dash : 45 ∈ m → m = [45, 33] ∨ ∃ m', m = m' ++ [45] ∧ m' ≠ [] ∧ 45 ∉ m'
inductive PatOk : List Nat × List Nat → Prop
 | q : PatOk ([63], [46])
 | lone (c : Nat) : c ∈ STOCK → c ∉ [42, 63, 91] → PatOk ([c], reescF c)
 | set (m : List Nat) : SetOk m → PatOk (91 :: (m ++ [93]), 91 :: (stuffF m ++ [93]))
noncomputable def textP (ps : List (List Nat × List Nat)) : List Nat := ps.flatMap (·.1)
noncomputable def posP (ps : List (List Nat × List Nat)) (k : Nat) : Nat := (textP (ps.take k)).length
theorem PatOk.len {a : List Nat × List Nat} (h : PatOk a) : 1 ≤ a.1.length ∧ a.1.length ≤ 10 := by
 cases h with
 | q => exact ⟨Nat.le_refl _, Nat.le_of_ble_eq_true rfl⟩
 | lone c _ _ => exact ⟨Nat.le_refl _, Nat.le_of_ble_eq_true rfl⟩
 | set m h => have := h.len; rw [List.length_cons, List.length_append, List.length_singleton]; omega
theorem textP_split {as : List (List Nat × List Nat)} {k : Nat} {a : List Nat × List Nat} (h : as[k]? = some a) : textP as = textP (as.take k) ++ (a.1 ++ textP (as.drop (k + 1))) ∧ textP (as.take (k + 1)) = textP (as.take k) ++ a.1 := by
 unfold textP
 refine el11 (List.getElem?_eq_some_iff.mp h) fun hk y0 => ?_; subst y0
 constructor
 ·conv => lhs; rw [← List.take_append_drop k as, List.drop_eq_getElem_cons hk]
  rw [List.flatMap_append, List.flatMap_cons]
 ·rw [List.take_add_one, h, List.flatMap_append]
  show _ ++ (_ ++ []) = _
  rw [List.append_nil]
theorem textP_len {as : List (List Nat × List Nat)} (ha : ∀ a ∈ as, PatOk a) : as.length ≤ (textP as).length ∧ (textP as).length ≤ 10 * as.length := by
 induction as with
 | nil => exact ⟨Nat.le_refl _, Nat.le_refl _⟩
 | cons a as ih =>
  have h1 := (ha a (.head _)).len
  have h2 := ih fun b hb => ha b (.tail _ hb)
  show _ ≤ (a.1 ++ textP as).length ∧ (a.1 ++ textP as).length ≤ _
  rw [List.length_append, List.length_cons]
  omega
theorem escM_len (m : List Nat) : m.length ≤ (escM m).length ∧ (escM m).length ≤ 2 * m.length := by
 unfold escM
 induction m with
 | nil => exact ⟨Nat.le_refl _, Nat.le_refl _⟩
 | cons c m ih =>
  have : 1 ≤ (dblF c).length ∧ (dblF c).length ≤ 2 := by unfold dblF; split; decide; split; decide; exact ⟨Nat.le_of_ble_eq_true rfl, Nat.le_of_ble_eq_true rfl⟩
  rw [List.flatMap_cons, List.length_append, List.length_cons]; omega
noncomputable def glueT (ps : List (List Nat)) : List Nat := S "(?s:" ++ (ps.flatten ++ S ")\\Z")
theorem signs_len (l : List Nat) : (signs l).length = l.length := List.length_map ..
section
variable {P : Params} {G : Gd} (hK : G.K = K02 P)
include hK
set_option maxHeartbeats 4000000
theorem glue_is (st : Addr) (ps : List (List Nat)) (hl : ps.length ≤ 8) (hp : ∀ p ∈ ps, p.length ≤ 40) : FnIs G 60 (.ref 199) [.list (dstrs ps), own st] (.str (glueT ps)) := by
 refine fn_K hK [("inp", .list (dstrs ps)), ("STAR", own st)] rfl rfl rfl ?_ rfl rfl rfl rfl rfl rfl rfl rfl ?_
 ·intro vs hv; refine el21 (len2 hv) fun a b y0 => ?_; subst y0; kernel_rfl
 intro X L
 have hlen : (dstrs ps).length = ps.length := List.length_map ..
 have hsum : (ps.map fun p => p.length + ([] : List Nat).length).sum ≤ 1000000 := Nat.le_trans (sum_le _ 40 _ fun p h => hp p h) (by omega)
 have hfl : ps.flatten.length ≤ 320 := by
  rw [List.length_flatten]; exact Nat.le_trans (sum_le _ 40 _ fun p h => hp p h) (by omega)
 refine ex_newlist (by kernel_rfl) rfl fun a ha => ?_
 refine ex_assign (d := .bm "list.append" a) (by kernel_rfl) rfl (ev_bound (ds := []) rfl (fun _ _ => rfl) ?_ (List.mem_cons_self ..)) ?_
 ·ac_rfl
 refine ex_pair_sw (d := .tup [.int 0, .int ps.length]) (by kernel_rfl) (by kernel_rfl) rfl rfl (ev_tup (evAll_cons rfl ev_int (evAll_cons rfl (ev_eq (ev_callB (ds := [.list (dstrs ps)]) ?_ ?_ rfl (fn_len_list (by omega)) rfl) (by rw [hlen])) evAll_nil)) (by show 2 ≤ sizeLine; decide)) unp_tup ?_
 iterate 2 (·ac_rfl)
 refine ex_while (σ := Nat) (fun k => [("i", .int k), ("n", .int ps.length), ("add", .bm "list.append" a), ("res", own a), ("inp", .list (dstrs ps)), ("STAR", own st)]) (fun k => [(a, .list (dstrs (ps.take k)))]) (fun k => k ≤ ps.length) (fun k => ps.length - k) (fun k => decide (k < ps.length)) 0 (Nat.zero_le _) ?_ (OSub.refl _) (fun _ => rfl) (fun k hk => ?_) (fun k hk hc => ?_) fun k hk hc => ?_
 ·walk_at "subs"
  all_goals rfl
 ·refine Or.elim (Nat.lt_or_ge k ps.length) (fun q => ?_) (fun q => ?_)
  ·refine el11 (⟨_, List.getElem?_eq_getElem q⟩ : ∃ p, ps[k]? = some p) fun p hpk => ?_
   rw [decide_eq_true q]
   refine tst_and_yes (tstE (tst_cmp (n := 51) (d₁ := .int k) (d₂ := .int ps.length) rfl ?_ ?_ cmp_lt_int) (decide_eq_true (Int.ofNat_lt.mpr q))) (tst_and_yes (tst_cmp (n := 51) (d₁ := .str p) (d₂ := own st) rfl (ev_item rfl ?_ ?_ (item_list (ds := dstrs ps) (i := (k : Int)) (by omega) ?_ (by omega))) ?_ cmp_isnot_str) tst_and_nil)
   iterate 4 (·ac_rfl)
   ·rw [Int.toNat_natCast, dstrs, List.getElem?_map, hpk]; rfl
   ·ac_rfl
  ·rw [decide_eq_false (Nat.not_lt.mpr q)]
   refine tst_and_no (tstE (tst_cmp (n := 51) (d₁ := .int k) (d₂ := .int ps.length) rfl ?_ ?_ cmp_lt_int) (decide_eq_false (by omega)))
   iterate 2 (·ac_rfl)
 ·have q := of_decide_eq_true hc
  refine el11 (⟨_, List.getElem?_eq_getElem q⟩ : ∃ p, ps[k]? = some p) fun p hpk => ?_
  have hil : (dstrs (ps.take k)).length ≤ sizeLine := small (by rw [dstrs, List.length_map]; exact Nat.le_trans (List.length_take_le ..) (by omega))
  refine ex_add (a := a) (ds := dstrs (ps.take k)) (d := .str p) rfl ?_ (OSet.head _) (evAll_cons rfl (ev_item rfl ?_ ?_ (item_list (ds := dstrs ps) (i := (k : Int)) (by omega) ?_ (by omega))) evAll_nil) rfl hil rfl rfl ?_
  iterate 3 (·ac_rfl)
  ·rw [Int.toNat_natCast, dstrs, List.getElem?_map, hpk]; rfl
  refine ex_aug (d₁ := .int k) (d₂ := .int 1) (d := .int (k + 1 : Nat)) (by kernel_rfl) (by kernel_rfl) (by walk_at "lk") ev_int inc_add (ex_nil (ex_end ⟨k + 1, q, by omega, ?_, ?_⟩))
  ·walk_at "subs"
  ·have e : dstrs (ps.take (k + 1)) = dstrs (ps.take k) ++ [.str p] := by rw [List.take_add_one, hpk]; exact List.map_append ..
   rw [e]; exact OSub.refl _
 ·have hkk : k = ps.length := Nat.le_antisymm hk (Nat.not_lt.mp (of_decide_eq_false hc))
  subst hkk
  rw [List.take_length]
  refine ex_while (σ := Unit) (fun _ => [("i", .int ps.length), ("n", .int ps.length), ("res", own a)]) (fun _ => [(a, .list (dstrs ps))]) (fun _ => True) (fun _ => 0) (fun _ => false) () trivial ?_ (OSub.refl _) (fun _ => rfl) (fun _ _ => ?_) (fun _ _ h => by injection h) (fun _ _ _ => ?_)
  ·exact Sub.cons lk_here (Sub.cons (lk_next (by kernel_rfl) lk_here) (Sub.cons (lk_next (by kernel_rfl) (lk_next (by kernel_rfl) (lk_next (by kernel_rfl) lk_here))) (Sub.nil _)))
  ·refine tstE (tst_cmp (n := 51) (d₁ := .int ps.length) (d₂ := .int ps.length) rfl ?_ ?_ cmp_lt_int) (decide_eq_false (Int.lt_irrefl _))
   iterate 2 (·ac_rfl)
  refine ex_assert (c := true) (tstE (tst_cmp (n := 51) (d₁ := .int ps.length) (d₂ := .int ps.length) rfl ?_ ?_ cmp_eq_int) (beq_self_eq_true _)) rfl ?_
  iterate 2 (·ac_rfl)
  refine ex_freeze_head "res" (a := a) (ds := dstrs ps) (lk_next (by kernel_rfl) (lk_next (by kernel_rfl) lk_here)) ha ?_
  refine ex_assign (d := .str ps.flatten) (by kernel_rfl) rfl (ev_eq (ev_join (ps := ps) rfl rfl (ev_litE (l := []) rfl) ?_ hsum) (by rw [joinL_nil])) ?_
  ·ac_rfl
  refine ex_ret (d := .str [S "(?s:", ps.flatten, S ")\\Z"].flatten) (ev_fstr (evj_cons (ev_litE rfl) (evj_cons (ev_fval ?_ (small (by omega))) (evj_cons (ev_litE rfl) evj_nil))) (small ?_)) ?_
  ·ac_rfl
  ·have h4 : (S "(?s:").length = 4 := rfl
   have h3 : (S ")\\Z").length = 3 := rfl
   simp only [List.map_cons, List.map_nil, List.sum_cons, List.sum_nil]; omega
  ·show D.str _ = D.str _
   simp only [List.flatten_cons, List.flatten_nil, List.append_nil]; rfl
end
theorem dblF_nin (m : List Nat) (h : 45 ∉ m) : escM m = StrLaws.dbl 92 m := by
 unfold escM
 induction m with
 | nil => rfl
 | cons c m ih =>
  rw [List.flatMap_cons, ih fun q => h (.tail _ q)]
  have hc : c ≠ 45 := fun e => h (e ▸ .head _)
  show dblF c ++ _ = if c = 92 then c :: c :: StrLaws.dbl 92 m else c :: StrLaws.dbl 92 m
  unfold dblF
  by_cases e : c = 92
  ·rw [if_pos e, if_pos e, e]; rfl
  ·rw [if_neg e, if_neg e, if_neg hc]; rfl
theorem dbl_nin : ∀ {u : List Nat}, 45 ∉ u → 45 ∉ StrLaws.dbl 92 u
 | [], _, h => by cases h
 | c :: u, hu, h => by
  have hu' := fun q => hu (.tail _ q)
  unfold StrLaws.dbl at h
  split at h
  ·refine Or.elim (List.mem_cons.mp h) (fun e => ?_) (fun h => ?_)
   ·exact hu (e ▸ .head _)
   ·refine Or.elim (List.mem_cons.mp h) (fun e => ?_) (fun h => ?_)
    ·exact hu (e ▸ .head _)
    ·exact dbl_nin hu' h
  ·refine Or.elim (List.mem_cons.mp h) (fun e => ?_) (fun h => ?_)
   ·exact hu (e ▸ .head _)
   ·exact dbl_nin hu' h
theorem dbl_len : ∀ u : List Nat, (StrLaws.dbl 92 u).length ≤ 2 * u.length
 | [] => Nat.le_refl _
 | c :: u => by
  have := dbl_len u
  unfold StrLaws.dbl
  split <;> (simp only [List.length_cons]; omega)
theorem esc_at {u v : List Nat} (hu : 45 ∉ u) (hv : 45 ∉ v) : Txt.replace (tx (StrLaws.dbl 92 (u ++ 45 :: v))) (tx [45]) (tx [92, 45]) = tx (escM (u ++ 45 :: v)) := by
 have e : escM (u ++ 45 :: v) = StrLaws.dbl 92 u ++ ([92, 45] ++ StrLaws.dbl 92 v) := by
  rw [← dblF_nin u hu, ← dblF_nin v hv]
  unfold escM
  rw [List.flatMap_append, List.flatMap_cons]; rfl
 rw [e, StrLaws.dbl_append]
 exact replace_at _ (dbl_nin hu) (dbl_nin hv)
theorem escM_signs {m : List Nat} (h : ∀ c ∈ m, c ∈ STOCK) : ∀ c ∈ escM m, c ∈ STOCK := fun c hc => by
 refine el12 (List.mem_flatMap.mp hc) fun b hb hcb => ?_
 unfold dblF at hcb
 have hb' := h b hb
 split at hcb
 ·simp only [List.mem_cons, List.not_mem_nil, or_false, or_self] at hcb; rw [hcb]; decide
 ·split at hcb
  ·simp only [List.mem_cons, List.not_mem_nil, or_false] at hcb; focus (refine Or.elim hcb (fun y0 => ?_) (fun y0 => ?_); subst y0; rotate_left; subst y0; rotate_left) <;> decide
  ·rw [List.mem_singleton.mp hcb]; exact hb'
theorem stock_dull : ∀ c ∈ STOCK, dull c = true := by decide +kernel
section
variable {P : Params} {G : Gd} (hK : G.K = K02 P)
include hK
set_option maxHeartbeats 8000000
theorem trans_is (st : Addr) (ps : List (List Nat × List Nat)) (hps : ∀ a ∈ ps, PatOk a) (hl : ps.length ≤ 8) : FnG G 51 (.ref 192) [.str (textP ps), own st, .str [46]] [(187, pit)] (fun d c' => d = .list (dstrs (ps.map (·.2))) ∧ c' = [(187, pit)]) := by
 refine fnG_K (n := 50) hK [("pat", .str (textP ps)), ("STAR", own st), ("QUESTION_MARK", .str [46])] [(187, pit)] (R' := fun _ d _ c' => d = .list (dstrs (ps.map (·.2))) ∧ c' = [(187, pit)]) rfl rfl rfl ?_ rfl rfl rfl rfl rfl rfl rfl rfl ?_ no_cells
 ·intro vs hv; refine el31 (len3 hv) fun a b c y0 => ?_; subst y0; kernel_rfl
 intro G' hK' _ X L
 refine el02 (textP_len hps) fun hlo hhi => ?_
 have hTl : (textP ps).length ≤ 80 := by omega
 refine ex_newlist (by kernel_rfl) rfl fun a ha => ?_
 refine ex_assign (d := .bm "list.append" a) (by kernel_rfl) rfl (ev_bound (ds := []) rfl (fun _ _ => rfl) ?_ (List.mem_cons_self ..)) ?_
 ·ac_rfl
 refine ex_pair_sw (d := .tup [.int 0, .int (textP ps).length]) (by kernel_rfl) (by kernel_rfl) rfl rfl (ev_tup (evAll_cons rfl ev_int (evAll_cons rfl (ev_callB (ds := [.str (textP ps)]) ?_ ?_ rfl (fn_len_str (by omega)) rfl) evAll_nil)) (show 2 ≤ sizeLine by decide)) unp_tup ?_
 iterate 2 (·ac_rfl)
 have hpos : ∀ k, k < ps.length → posP ps k < (textP ps).length := fun k hk => by
  refine el11 (⟨_, List.getElem?_eq_getElem hk⟩ : ∃ x, ps[k]? = some x) fun x hx => ?_
  unfold posP
  rw [(textP_split hx).1, List.length_append, List.length_append]
  have := (hps x (List.mem_of_getElem? hx)).len.1
  omega
 refine ex_while (σ := Nat) (fun k => [("i", .int (posP ps k : Nat)), ("n", .int (textP ps).length), ("add", .bm "list.append" a), ("res", own a), ("pat", .str (textP ps)), ("STAR", own st), ("QUESTION_MARK", .str [46])]) (fun k => [(a, .list (dstrs ((ps.take k).map (·.2)))), (187, pit)]) (fun k => k ≤ ps.length) (fun k => ps.length - k) (fun k => decide (k < ps.length)) 0 (Nat.zero_le _) ?_ (OSub.refl _) (fun _ => rfl) (fun k hk => ?_) (fun k hk hc => ?_) fun k hk hc => ?_
 ·walk_at "subs"
  all_goals rfl
 ·refine tstE (tst_cmp (n := 42) (d₁ := .int (posP ps k : Nat)) (d₂ := .int (textP ps).length) rfl ?_ ?_ cmp_lt_int) ?_
  iterate 2 (·ac_rfl)
  ·rw [decide_eq_decide]
   constructor
   ·intro h
    refine Or.elim (Nat.lt_or_ge k ps.length) (fun q => ?_) (fun q => ?_)
    ·exact q
    ·have : posP ps k = (textP ps).length := by unfold posP; rw [List.take_of_length_le q]
     omega
   ·intro h; have := hpos k h; omega
 ·have hk1 := of_decide_eq_true hc
  refine el11 (⟨_, List.getElem?_eq_getElem hk1⟩ : ∃ x, ps[k]? = some x) fun x hx => ?_
  refine el02 (textP_split hx) fun hs1 hs2 => ?_
  have hxk := hps x (List.mem_of_getElem? hx)
  have hxl := hxk.len
  have hp1 : posP ps (k + 1) = posP ps k + x.1.length := by unfold posP; rw [hs2, List.length_append]
  have hpb : posP ps k + x.1.length ≤ (textP ps).length := by
   have h1 := congrArg List.length hs1
   simp only [List.length_append] at h1
   show (textP (ps.take k)).length + _ ≤ _
   omega
  have at_ : ∀ j c, x.1[j]? = some c → (textP ps)[posP ps k + j]? = some c := fun j c h => by
   rw [hs1]
   show (textP (ps.take k) ++ _)[(textP (ps.take k)).length + j]? = _
   rw [List.getElem?_append_right (Nat.le_add_right _ _), Nat.add_sub_cancel_left, List.getElem?_append_left (List.getElem?_eq_some_iff.mp h).1]; exact h
  have hits : dstrs ((ps.take (k + 1)).map (·.2)) = dstrs ((ps.take k).map (·.2)) ++ [.str x.2] := by rw [List.take_add_one, hx, List.map_append]; exact List.map_append ..
  have hil : (dstrs ((ps.take k).map (·.2))).length ≤ sizeLine := small (by rw [dstrs, List.length_map, List.length_map]; exact Nat.le_trans (List.length_take_le ..) (by omega))
  generalize hrs : dstrs ((ps.take k).map (·.2)) = rs at hits hil
  refine el11 (⟨_, List.getElem?_eq_getElem (by omega)⟩ : ∃ c0, x.1[0]? = some c0) fun c0 hc0 => ?_
  refine ex_assign (d := .str [c0]) (by kernel_rfl) rfl (ev_item rfl ?_ ?_ (itemS (i := posP ps k) (at_ 0 c0 hc0) (by omega))) ?_
  iterate 2 (·ac_rfl)
  refine ex_assign (d := .int (posP ps k + 1 : Nat)) (by kernel_rfl) rfl (ev_eq (d' := .int ((posP ps k : Nat) + 1)) ?_ rfl) ?_
  ·ac_rfl
  have n42 : c0 ≠ 42 := by
   cases hxk with
   | q => (injection hc0 with y0; subst y0); decide
   | lone c h1 h2 => (injection hc0 with y0; subst y0); exact fun e => h2 (e ▸ .head _)
   | set m h => (injection hc0 with y0; subst y0); decide
  refine ex_if_no (tstE (tst_cmp (n := 42) (d₁ := .str [c0]) rfl ?_ (ev_litE (l := [42]) rfl) cmp_eq_one) (beq_eq_false_iff_ne.mpr n42)) ?_
  ·ac_rfl
  refine ex_if (c := c0 == 63) (tst_cmp (n := 42) (d₁ := .str [c0]) rfl ?_ (ev_litE (l := [63]) rfl) cmp_eq_one) (fun h63 => ?_) fun h63 => ?_
  ·ac_rfl
  ·cases hxk with
   | lone c h1 h2 => (injection hc0 with y0; subst y0); rw [beq_iff_eq.mp h63] at h2; exact absurd (by decide) h2
   | set m h => (injection hc0 with y0; subst y0); injection h63
   | q =>
    refine ex_add (a := a) (ds := rs) (d := .str [46]) rfl ?_ (OSet.head _) (evAll_cons rfl ?_ evAll_nil) rfl hil rfl rfl ?_
    iterate 2 (·ac_rfl)
    refine ex_nil (ex_nil (ex_nil (ex_end ⟨k + 1, hk1, by omega, ?_, ?_⟩)))
    ·walk_at "subs"
     rw [hp1]; rfl
    ·rw [hits]; exact OSub.refl _
  refine ex_if (c := c0 == 91) (tst_cmp (n := 42) (d₁ := .str [c0]) rfl ?_ (ev_litE (l := [91]) rfl) cmp_eq_one) (fun h91 => ?_) fun h91 => ?_
  ·ac_rfl
  ·cases hxk with
   | q => (injection hc0 with y0; subst y0); injection h91
   | lone c h1 h2 => (injection hc0 with y0; subst y0); rw [beq_iff_eq.mp h91] at h2; exact absurd (by decide) h2
   | set m hm =>
    (injection hc0 with y0; subst y0)
    refine el23 hm.head fun m0 mr y0 => ?_; subst y0; intro h33 h93
    have hml : ((91 : Nat) :: (m0 :: mr ++ [93])).length = mr.length + 3 := by simp
    have hl8 : mr.length + 1 ≤ 8 := hm.len
    have hpb' : posP ps k + (mr.length + 3) ≤ (textP ps).length := hml ▸ hpb
    have hp1' : posP ps (k + 1) = posP ps k + (mr.length + 3) := hml ▸ hp1
    have g0 : (textP ps)[posP ps k + 1]? = some m0 := at_ 1 m0 rfl
    have gm : ∀ j y, mr[j]? = some y → (textP ps)[posP ps k + 1 + (j + 1)]? = some y := fun j y hy => by
     rw [Nat.add_assoc, Nat.add_comm 1]
     refine at_ (j + 1 + 1) y ?_
     show ((91 : Nat) :: (m0 :: mr ++ [93]))[j + 1 + 1]? = _
     rw [List.getElem?_cons_succ, List.cons_append, List.getElem?_cons_succ, List.getElem?_append_left (List.getElem?_eq_some_iff.mp hy).1]; exact hy
    have ge : (textP ps)[posP ps k + 1 + (mr.length + 1)]? = some 93 := by
     rw [Nat.add_assoc, Nat.add_comm 1]
     refine at_ (mr.length + 1 + 1) 93 ?_
     show ((91 : Nat) :: (m0 :: mr ++ [93]))[mr.length + 1 + 1]? = _
     rw [List.getElem?_cons_succ, List.cons_append, List.getElem?_cons_succ, List.getElem?_append_right (Nat.le_refl _), Nat.sub_self]; rfl
    have hcutm : cut (textP ps) (some ((posP ps k + 1 : Nat) : Int)) (some ((posP ps k + 1 + (mr.length + 1) : Nat) : Int)) = m0 :: mr := by
     have e : textP ps = (textP (ps.take k) ++ [91]) ++ ((m0 :: mr) ++ ([93] ++ textP (ps.drop (k + 1)))) := by rw [hs1]; simp
     rw [e]
     exact cut_pos _ _ _ _ _ (by rw [List.length_append]; rfl) rfl
    have hsplit : ∃ pre post, textP ps = pre ++ ((m0 :: mr) ++ post) ∧ pre.length = posP ps k + 1 := ⟨textP (ps.take k) ++ [91], [93] ++ textP (ps.drop (k + 1)), by rw [hs1]; simp, by rw [List.length_append]; rfl⟩
    have hp1q : posP ps (k + 1) = posP ps k + 1 + (mr.length + 1) + 1 := by omega
    have hpn : posP ps k + 1 + (mr.length + 1) < (textP ps).length := by omega
    clear hpb hp1 hpb' hp1' at_ hxl hml hs1 hs2
    generalize posP ps k + 1 = p at *
    have hsig := escM_signs hm.signs
    have hel := escM_len (m0 :: mr)
    refine ex_assign (d := .int p) (by kernel_rfl) rfl ?_ ?_
    ·ac_rfl
    refine ex_if_no (tst_and_yes (tstE (tst_cmp (n := 42) (d₁ := .int p) (d₂ := .int (textP ps).length) rfl ?_ ?_ cmp_lt_int) (decide_eq_true (by omega))) (tst_and_no (tstE (tst_cmp (n := 42) (d₁ := .str [m0]) rfl (ev_item rfl ?_ ?_ (itemS (i := p) g0 (by omega))) (ev_litE (l := [33]) rfl) cmp_eq_one) (beq_eq_false_iff_ne.mpr h33)))) (ex_nil ?_)
    iterate 4 (·ac_rfl)
    refine ex_if_join (c := m0 == 93) (S := fun r w => Sub [("j", .int (p + (if m0 = 93 then 1 else 0) : Nat)), ("i", .int p), ("n", .int (textP ps).length), ("add", .bm "list.append" a), ("res", own a), ("pat", .str (textP ps)), ("STAR", own st), ("QUESTION_MARK", .str [46])] r ∧ w = [(a, .list rs), (187, pit)]) (tst_and_yes (tstE (tst_cmp (n := 42) (d₁ := .int p) (d₂ := .int (textP ps).length) rfl ?_ ?_ cmp_lt_int) (decide_eq_true (by omega))) (tstE (tst_and (tst_cmp (n := 42) (d₁ := .str [m0]) rfl (ev_item rfl ?_ ?_ (itemS (i := p) g0 (by omega))) (ev_litE (l := [93]) rfl) cmp_eq_one) fun _ => tst_and_nil) (Bool.and_true _))) ?_ (fun h key => ?_) fun h key => ?_
    iterate 4 (·ac_rfl)
    rotate_left
    ·refine ex_assign (d := .int (p + 1 : Nat)) (by kernel_rfl) rfl (ev_eq (d' := .int ((p : Nat) + 1)) ?_ rfl) (ex_nil (key _ _ ⟨?_, rfl⟩))
     ·ac_rfl
     ·rw [if_pos (beq_iff_eq.mp h)]
      walk_at "subs"
    ·refine ex_nil (key _ _ ⟨?_, rfl⟩)
     rw [if_neg (fun e => by rw [beq_iff_eq.mpr e] at h; injection h)]
     walk_at "subs"
     all_goals rfl
    intro r _ y0; refine el02 y0 fun hr y0 => ?_; subst y0
    refine ex_sub hr ?_
    clear hr
    refine ex_while (σ := Nat) (fun j => [("j", .int j), ("i", .int p), ("n", .int (textP ps).length), ("add", .bm "list.append" a), ("res", own a), ("pat", .str (textP ps)), ("STAR", own st), ("QUESTION_MARK", .str [46])]) (fun _ => [(a, .list rs), (187, pit)]) (fun j => p + (if m0 = 93 then 1 else 0) ≤ j ∧ j ≤ p + (mr.length + 1)) (fun j => p + (mr.length + 1) - j) (fun j => decide (j < p + (mr.length + 1))) (p + (if m0 = 93 then 1 else 0)) ⟨Nat.le_refl _, by split <;> omega⟩ (Sub.refl _) (OSub.refl _) (fun _ => rfl) (fun j hj => ?_) (fun j hj hc => ?_) fun j hj hc => ?_
    ·refine el12 ((by
      rcases Nat.lt_or_ge j (p + (mr.length + 1)) with q | q
      ·rw [decide_eq_true q]
       rcases Nat.lt_or_ge p j with z | z
       ·obtain ⟨i, rfl⟩ : ∃ i, j = p + (i + 1) := ⟨j - p - 1, by omega⟩
        obtain ⟨y, hy⟩ : ∃ y, mr[i]? = some y := ⟨_, List.getElem?_eq_getElem (by omega)⟩
        exact ⟨y, gm i y hy, bne_iff_ne.mpr fun e => h93 (e ▸ List.mem_of_getElem? hy)⟩
       ·have hjp : j = p := by have := hj.1; split at this <;> omega
        have : ¬ m0 = 93 := fun e => by have := hj.1; rw [if_pos e] at this; omega
        exact ⟨m0, hjp ▸ g0, bne_iff_ne.mpr this⟩
      ·have : j = p + (mr.length + 1) := Nat.le_antisymm hj.2 q
       rw [decide_eq_false (Nat.not_lt.mpr q)]
       exact ⟨93, this ▸ ge, rfl⟩) : ∃ y, (textP ps)[j]? = some y ∧ (y != 93) = decide (j < p + (mr.length + 1))) fun y hy hyd => ?_
     rw [← hyd]
     refine tst_and_yes (tstE (tst_cmp (n := 42) (d₁ := .int j) (d₂ := .int (textP ps).length) rfl ?_ ?_ cmp_lt_int) (decide_eq_true (by omega))) (tstE (tst_and (tst_cmp (n := 42) (d₁ := .str [y]) rfl (ev_item rfl ?_ ?_ (itemS (i := j) hy (by omega))) (ev_litE (l := [93]) rfl) cmp_ne_str) fun _ => tst_and_nil) ?_)
     iterate 4 (·ac_rfl)
     ·rw [Bool.and_true]
      show (!([y] == [93])) = !(y == 93)
      rw [one_beq]
    ·have q := of_decide_eq_true hc
     refine ex_assign (d := .int (j + 1 : Nat)) (by kernel_rfl) rfl (ev_eq (d' := .int ((j : Nat) + 1)) ?_ rfl) (ex_nil (ex_end ⟨j + 1, ⟨by omega, q⟩, by omega, ?_, OSub.refl _⟩))
     ·ac_rfl
     ·walk_at "subs"
    obtain rfl : j = p + (mr.length + 1) := Nat.le_antisymm hj.2 (Nat.not_lt.mp (of_decide_eq_false hc))
    refine ex_if_no (tstE (tst_cmp (n := 42) (d₁ := .int (p + (mr.length + 1) : Nat)) (d₂ := .int (textP ps).length) rfl ?_ ?_ cmp_ge_int) (decide_eq_false (by omega))) ?_
    ·exact ev_name lk_here (by kernel_rfl) (by kernel_rfl)
    ·ac_rfl
    refine ex_assign (d := .str (m0 :: mr)) (by kernel_rfl) rfl (ev_eq (ev_cut_str (l := textP ps) (i := some (p : Int)) (j := some ((p + (mr.length + 1) : Nat) : Int)) ?_ (evp_some ?_) (evp_some ?_) (small (by omega))) (congrArg D.str hcutm)) ?_
    iterate 3 (·ac_rfl)
    refine ex_if_lit_join (n := 42) (l := [45]) (d₂ := .str (m0 :: mr)) (c := !decide (45 ∈ m0 :: mr)) (S := fun r w => Sub [("stuff", .str (escM (m0 :: mr))), ("j", .int (p + (mr.length + 1) : Nat)), ("n", .int (textP ps).length), ("add", .bm "list.append" a), ("res", own a), ("pat", .str (textP ps)), ("STAR", own st), ("QUESTION_MARK", .str [46])] r ∧ w = [(a, .list rs), (187, pit)]) rfl rfl ?_ cmp_notin_str ?_ (fun h key => ?_) fun h key => ?_
    ·ac_rfl
    rotate_left
    ·have h45 : 45 ∉ m0 :: mr := by simpa using h
     refine exP_replace (l := m0 :: mr) (y := [92]) (z := [92, 92]) (r := escM (m0 :: mr)) (by kernel_rfl) rfl rfl ?_ rfl rfl (by decide) ?_ (by rw [List.length_cons]; show _ + _ * 2 ≤ _; omega) (ex_nil (key _ _ ⟨?_, rfl⟩))
     ·ac_rfl
     ·rw [dblF_nin _ h45]; exact replace_dbl _ _ _ 92 rfl rfl
     ·walk_at "subs"
    ·refine Ex.toP ?_
     have hin : 45 ∈ m0 :: mr := by
      cases hd : decide (45 ∈ m0 :: mr) with
      | true => exact of_decide_eq_true hd
      | false => rw [hd] at h; injection h
     have hat : ∀ j y, (m0 :: mr)[j]? = some y → (textP ps)[p + j]? = some y := fun j y hy => by
      cases j with
      | zero => (injection hy with y0; subst y0); exact g0
      | succ j => exact gm j y hy
     refine el22 ((by
      rcases hm.dash hin with e | ⟨m', e, h1, h2⟩
      ·exact ⟨false, [], (fun q => by cases q), fun _ => e⟩
      ·exact ⟨true, m', fun _ => ⟨e, h2, h1⟩, fun q => by cases q⟩) : ∃ (cb : Bool) (m' : List Nat), (cb = true → m0 :: mr = m' ++ [45] ∧ 45 ∉ m' ∧ m' ≠ []) ∧ (cb = false → m0 :: mr = [45, 33])) fun cb m' hcb hca => ?_
     have hml : cb = true → m'.length + 1 = mr.length + 1 := fun e => by have := congrArg List.length (hcb e).1; rw [List.length_append] at this; exact this.symm
     refine ex_newlist (by kernel_rfl) rfl fun a2 ha2 => ?_
     refine ex_assign (d := .int (p + 1 : Nat)) (by kernel_rfl) rfl (ev_if (c := false) (tstE (tst_cmp (n := 42) (d₁ := .str [m0]) rfl (ev_item rfl ?_ ?_ (itemS (i := p) g0 (by omega))) (ev_litE (l := [33]) rfl) cmp_eq_one) (beq_eq_false_iff_ne.mpr h33)) (fun h => by injection h) fun _ => ev_eq (d' := .int ((p : Nat) + 1)) ?_ rfl) ?_
     iterate 3 (·ac_rfl)
     refine ex_while (σ := Bool) (fun s => [("k", .int (if s then p + m'.length + 3 else p + 1 : Nat)), ("i", .int (if s then p + (mr.length + 1) else p : Nat)), ("chunks", own a2), ("j", .int (p + (mr.length + 1) : Nat)), ("n", .int (textP ps).length), ("add", .bm "list.append" a), ("res", own a), ("pat", .str (textP ps)), ("STAR", own st), ("QUESTION_MARK", .str [46])]) (fun s => [(a2, .list (if s then [.str m'] else [])), (a, .list rs), (187, pit)]) (fun s => s = true → cb = true) (fun s => if s then 0 else 1) (fun _ => true) false (fun h => by injection h) ?_ (OSub.refl _) (fun _ => rfl) (fun s hs => tst_plain (d := .bool true) rfl ev_bool truth_bool) (fun s hs _ => ?_) fun s hs h => by injection h
     ·walk_at "subs"
      all_goals rfl
     by_cases hsc : s = false ∧ cb = true
     ·refine el02 hsc fun y0 => ?_; subst y0; intro y0; subst y0
      refine el03 (hcb rfl) fun e1 e2 e3 => ?_
      have hml' := hml rfl
      have hm1 : 1 ≤ m'.length := List.length_pos_iff.mpr e3
      show Ex G' 50 _ [("k", .int (p + 1 : Nat)), ("i", .int (p : Nat)), ("chunks", own a2), ("j", .int (p + (mr.length + 1) : Nat)), ("n", .int (textP ps).length), ("add", .bm "list.append" a), ("res", own a), ("pat", .str (textP ps)), ("STAR", own st), ("QUESTION_MARK", .str [46])] [(a2, .list []), (a, .list rs), (187, pit)] _ _
      refine ex_assign (d := .int (p + m'.length : Nat)) (by kernel_rfl) rfl (ev_meth (id := "str.find") (d₀ := .str (textP ps)) (ds := [.str [45], .int (p + 1 : Nat), .int (p + (mr.length + 1) : Nat)]) ?_ (meth_str F.slot_str_find F.type_str_find) (evAll_cons rfl (ev_litE rfl) ?_) rfl (fn_find_to (by omega) ⟨_, occ_first (i := p + m'.length) (by omega) (by omega) (by omega) (hat _ 45 (by rw [e1, List.getElem?_append_right (Nat.le_refl _), Nat.sub_self]; rfl)) (fun j h1 h2 e => ?_), rfl⟩) rfl) ?_
      iterate 2 (·ac_rfl)
      ·refine el11 (⟨j - p, by omega⟩ : ∃ i, j = p + i) fun i y0 => ?_; subst y0
       have hi : i < m'.length := by omega
       rw [hat i _ (by rw [e1, List.getElem?_append_left hi]; exact List.getElem?_eq_getElem hi)] at e
       exact e2 (Option.some.inj e ▸ List.getElem_mem _)
      refine ex_if_no (tstE (tst_cmp (n := 42) (d₁ := .int (p + m'.length : Nat)) (d₂ := .int 0) rfl ?_ ev_int cmp_lt_int) (decide_eq_false (by omega))) (ex_nil ?_)
      ·ac_rfl
      refine ex_append (a := a2) (ds := []) (d := .str m') ?_ (OSet.head _) (evAll_cons rfl (ev_eq (ev_cut_str (l := textP ps) (i := some (p : Int)) (j := some ((p + m'.length : Nat) : Int)) ?_ (evp_some ?_) (evp_some ?_) (small (by omega))) ?_) evAll_nil) rfl (small (by decide)) rfl rfl rfl ?_
      iterate 4 (·ac_rfl)
      ·refine el22 hsplit fun pre post q1 q2 => ?_
       rw [q1, e1, List.append_assoc]
       exact congrArg D.str (cut_pos pre m' _ _ _ q2 rfl)
      refine ex_assign (d := .int (p + (mr.length + 1) : Nat)) (by kernel_rfl) rfl (ev_eq (d' := .int ((p + m'.length : Nat) + 1)) ?_ (by rw [← hml']; rfl)) ?_
      ·ac_rfl
      refine ex_assign (d := .int (p + m'.length + 3 : Nat)) (by kernel_rfl) rfl (ev_eq (d' := .int ((p + m'.length : Nat) + 3)) ?_ rfl) ?_
      ·ac_rfl
      refine ex_nil (ex_end ⟨true, fun _ => rfl, by decide, ?_, OSub.refl _⟩)
      walk_at "subs"
      all_goals rfl
     have hsc' : s = cb := by
      cases s with
      | true => exact (hs rfl).symm
      | false => cases cb with
       | false => rfl
       | true => exact absurd ⟨rfl, rfl⟩ hsc
     subst hsc'
     refine ex_assign (d := .int (-1)) (by kernel_rfl) rfl (ev_meth (id := "str.find") (d₀ := .str (textP ps)) (ds := [.str [45], .int (if s then p + m'.length + 3 else p + 1 : Nat), .int (p + (mr.length + 1) : Nat)]) ?_ (meth_str F.slot_str_find F.type_str_find) (evAll_cons rfl (ev_litE rfl) ?_) rfl (fn_find_to (by omega) ⟨_, occ_none (by omega) (fun j h1 h2 e => ?_), rfl⟩) rfl) ?_
     iterate 2 (·ac_rfl)
     ·cases s with
      | true => have := hml rfl; simp only [if_true] at h1; omega
      | false =>
       have e1 := hca rfl
       have hl1 : mr.length + 1 = 2 := congrArg List.length e1
       simp only [Bool.false_eq_true, if_false] at h1
       obtain rfl : j = p + 1 := by omega
       rw [hat 1 33 (by rw [e1]; rfl)] at e; (injection e with y0; injection y0 with y2; injection y2 with y4; injection y4 with y6; injection y6 with y8; injection y8 with y10; injection y10 with y12; injection y12 with y14; injection y14 with y16; injection y16 with y18; injection y18 with y20; injection y20 with y22; injection y22 with y24; injection y24 with y26; injection y26 with y28; injection y28 with y30; injection y30 with y32; injection y32 with y34; injection y34 with y36; injection y36 with y38; injection y38 with y40; injection y40 with y42; injection y42 with y44; injection y44 with y46; injection y46 with y48; injection y48 with y50; injection y50 with y52; injection y52 with y54; injection y54 with y56; injection y56 with y58; injection y58 with y60; injection y60 with y62; injection y62 with y64; injection y64 with y66; injection y66)
     refine ex_if_yes (tst_cmp (n := 42) (d₁ := .int (-1)) (d₂ := .int 0) rfl ?_ ev_int cmp_lt_int) ?_
     ·ac_rfl
     refine ex_brk ⟨[("i", .int (if s then p + (mr.length + 1) else p : Nat)), ("chunks", own a2), ("j", .int (p + (mr.length + 1) : Nat)), ("n", .int (textP ps).length), ("add", .bm "list.append" a), ("res", own a), ("pat", .str (textP ps)), ("STAR", own st), ("QUESTION_MARK", .str [46])], [(a2, .list (if s then [.str m'] else [])), (a, .list rs), (187, pit)], ?_, OSub.refl _, rfl, ?_⟩
     ·walk_at "subs"
     refine ex_assign (d := .str (if s then [] else m0 :: mr)) (by kernel_rfl) rfl (ev_eq (ev_cut_str (l := textP ps) (i := some ((if s then p + (mr.length + 1) else p : Nat) : Int)) (j := some ((p + (mr.length + 1) : Nat) : Int)) ?_ (evp_some ?_) (evp_some ?_) (small (by omega))) ?_) ?_
     iterate 3 (·ac_rfl)
     ·cases s with
      | false => exact congrArg D.str hcutm
      | true =>
       refine el22 hsplit fun pre post q1 q2 => ?_
       rw [q1, ← List.append_assoc]
       exact congrArg D.str (cut_pos (pre ++ (m0 :: mr)) [] post _ _ (by rw [List.length_append, q2]; rfl) rfl)
     have hne : (if s then [] else m0 :: mr).length ≤ 8 := by split; exact Nat.zero_le _; exact hl8
     refine ex_if_join (c := !s) (S := fun r w => Sub [("chunks", own a2), ("j", .int (p + (mr.length + 1) : Nat)), ("n", .int (textP ps).length), ("add", .bm "list.append" a), ("res", own a), ("pat", .str (textP ps)), ("STAR", own st), ("QUESTION_MARK", .str [46])] r ∧ w = [(a2, .list [.str (m0 :: mr)]), (a, .list rs), (187, pit)]) (tst_plain (d := .str (if s then [] else m0 :: mr)) rfl ?_ ?_) ?_ (fun h key2 => ?_) fun h key2 => ?_
     ·ac_rfl
     ·have := truth_str (l := if s then [] else m0 :: mr) (by omega)
      cases s <;> exact this
     rotate_left
     ·obtain rfl : s = false := by simpa using h
      refine ex_append (a := a2) (ds := []) (d := .str (m0 :: mr)) ?_ (OSet.head _) (evAll_cons rfl ?_ evAll_nil) rfl (small (by decide)) rfl rfl rfl (ex_nil (key2 _ _ ⟨?_, rfl⟩))
      ·ac_rfl
      ·exact ev_name lk_here (by kernel_rfl) (by kernel_rfl)
      ·walk_at "subs"
     ·obtain rfl : s = true := by simpa using h
      refine ex_auglast (a := a2) (d₁ := .str m') (d₂ := .str [45]) (d := .str (m0 :: mr)) rfl ?_ ev_neg (ev_litE rfl) ?_ (OSet.head _) (ex_nil (key2 _ _ ⟨?_, rfl⟩))
      ·ac_rfl
      ·rw [(hcb rfl).1]; exact inc_cat' (by have := hml rfl; rw [List.length_singleton]; omega)
      ·walk_at "subs"
     intro r _ y0; refine el02 y0 fun hr y0 => ?_; subst y0
     refine ex_sub hr ?_
     clear hr
     refine ex_forN (ds := []) (by kernel_rfl) (src_mk rfl rfl ?_ (evAll_cons rfl (ev_eq (d' := .int (((([.str (m0 :: mr)] : List D).length : Nat) : Int) - 1)) (ev_binop (ev_freeze "chunks" (a := a2) (ds := [.str (m0 :: mr)]) lk_here (List.mem_cons_self ..) OSub.nil (by simp) (fun _ => .nil) rfl (ev_callB (ds := [.list [.str (m0 :: mr)]]) ?_ ?_ rfl (fn_len_list (show 1 < 2 ^ 63 by decide)) rfl)) ev_int bin_sub) rfl) (evAll_cons rfl ev_int (evAll_cons rfl ev_neg evAll_nil))) mk_range_none) (fun _ => [("chunks", own a2), ("j", .int (p + (mr.length + 1) : Nat)), ("n", .int (textP ps).length), ("add", .bm "list.append" a), ("res", own a), ("pat", .str (textP ps)), ("STAR", own st), ("QUESTION_MARK", .str [46])]) (fun _ => [(a2, .list [.str (m0 :: mr)]), (a, .list rs), (187, pit)]) (Sub.refl _) (OSub.refl _) (fun _ => rfl) (fun i d hd => by injection hd) ?_
     iterate 3 (·ac_rfl)
     refine el23 ((by
      rcases hm.dash hin with e | ⟨m', e, h1, h2⟩
      ·exact ⟨[], [33], e, List.not_mem_nil, by decide⟩
      ·exact ⟨m', [], e, h2, List.not_mem_nil⟩) : ∃ u v, m0 :: mr = u ++ 45 :: v ∧ 45 ∉ u ∧ 45 ∉ v) fun u v huv hu hv => ?_
     refine ex_joingen (a := a2) (l := m0 :: mr) (r := escM (m0 :: mr)) (f := fun _ _ => none) (c := 191) (P := 187) (by kernel_rfl) rfl rfl ?_ (List.mem_cons_self ..) (by kernel_rfl) (by rw [hK']; kernel_rfl) (.tail _ (.tail _ (.head _))) rfl rfl (by kernel_rfl) (by decide) rfl rfl rfl (fun _ => rfl) (fun cl C code bi A' E' t s₂ m₂ h1 hn hm => rep_ (y := [45]) (z := [92, 45]) (r := escM (m0 :: mr)) (l := StrLaws.dbl 92 (m0 :: mr)) rfl rfl rfl (by decide) (huv ▸ esc_at hu hv) ?_ (rep_ (y := [92]) (z := [92, 92]) (l := m0 :: mr) (r := StrLaws.dbl 92 (m0 :: mr)) rfl rfl rfl (by decide) (replace_dbl _ _ _ 92 rfl rfl) ?_ (wpAny_Name (wpAny_loadName_local rfl rfl hn hm ⟨⟨t, rfl⟩, h1, fun t' k hk => ⟨⟨t', rfl⟩, Nat.le_trans h1 hk, fun t'' k' _ => ⟨⟨t'', rfl⟩, _, _, rfl, fun _ _ e => e⟩⟩⟩)))) (by decide) ?_ ?_
     ·ac_rfl
     ·have := dbl_len (m0 :: mr)
      rw [List.length_cons] at this
      show _ + _ * 2 ≤ _
      omega
     ·rw [List.length_cons]; show _ + _ * 2 ≤ _; omega
     ·have := hel.2; rw [List.length_cons] at this; omega
     refine ex_own (ow' := [(a, .list rs), (187, pit)]) (fun _ q => .tail _ q) (fun q => (List.nodup_cons.mp q).2) (ex_nil (key _ _ ⟨?_, rfl⟩))
     walk_at "subs"
    intro r _ y0; refine el02 y0 fun hr y0 => ?_; subst y0
    refine ex_sub hr ?_
    clear hr
    refine el22 ((by
     show ∃ e0 er, dblF m0 ++ _ = _ ∧ _
     unfold dblF
     by_cases a : m0 = 92
     ·rw [if_pos a]; exact ⟨92, _, rfl, by decide⟩
     ·rw [if_neg a]
      by_cases b : m0 = 45
      ·rw [if_pos b]; exact ⟨92, _, rfl, by decide⟩
      ·rw [if_neg b]; exact ⟨m0, _, rfl, h33⟩) : ∃ e0 er, escM (m0 :: mr) = e0 :: er ∧ e0 ≠ 33) fun e0 er he hne33 => ?_
    have hst : stuffF (m0 :: mr) = if e0 ∈ [94, 91] then 92 :: (e0 :: er) else e0 :: er := by unfold stuffF; rw [he]; rfl
    rw [he] at hsig hel ⊢
    have hsl : (stuffF (m0 :: mr)).length ≤ 20 := by
     rw [hst]
     have : (m0 :: mr).length = mr.length + 1 := rfl
     split <;> (simp only [List.length_cons] at hel ⊢; omega)
    have hel2 : er.length ≤ 20 := by have : (m0 :: mr).length = mr.length + 1 := rfl; simp only [List.length_cons] at hel; omega
    refine ex_resub (p := 166) (q := 165) (c := 191) (P := 187) (f := fun _ _ => none) (l := e0 :: er) (by kernel_rfl) rfl rfl ?_ (by rw [hK']; kernel_rfl) ?_ (by kernel_rfl) (by rw [hK']; kernel_rfl) (.tail _ (.head _)) (fun q e => by injection e) (by kernel_rfl) rfl (fun c hc => stock_dull c (hsig c hc)) (List.cons_ne_nil _ _) (by rw [List.length_cons]; omega) ?_
    iterate 2 (·ac_rfl)
    refine ex_assign (d := .int (posP ps (k + 1) : Nat)) (by kernel_rfl) rfl (ev_eq (d' := .int ((p + (mr.length + 1) : Nat) + 1)) ?_ (by rw [hp1q]; rfl)) ?_
    ·ac_rfl
    refine ex_if_no (tst_not (b := true) (tst_plain (d := .str (e0 :: er)) rfl ?_ (truth_str (l := e0 :: er) (by rw [List.length_cons]; omega)))) ?_
    ·ac_rfl
    refine ex_if_no (tstE (tst_cmp (n := 42) (d₁ := .str (e0 :: er)) (d₂ := .str [33]) rfl ?_ (ev_litE rfl) cmp_eq_str) (beq_eq_false_iff_ne.mpr fun e => hne33 (List.cons.inj e).1)) ?_
    ·ac_rfl
    refine ex_if_join (c := false) (S := fun r w => Sub [("stuff", .str (stuffF (m0 :: mr))), ("i", .int (posP ps (k + 1) : Nat)), ("n", .int (textP ps).length), ("add", .bm "list.append" a), ("res", own a), ("pat", .str (textP ps)), ("STAR", own st), ("QUESTION_MARK", .str [46])] r ∧ w = [(a, .list rs), (187, pit)]) (tstE (tst_cmp (n := 42) (d₁ := .str [e0]) rfl (ev_item0 (c := e0) (r := er) rfl ?_ ev_int (by omega)) (ev_litE (l := [33]) rfl) cmp_eq_one) (beq_eq_false_iff_ne.mpr hne33)) ?_ (fun h => by injection h) fun _ key => ?_
    ·ac_rfl
    ·intro r _ y0; refine el02 y0 fun hr y0 => ?_; subst y0
     refine ex_sub hr ?_
     clear hr
     refine ex_add (a := a) (ds := rs) (d := .str (91 :: (stuffF (m0 :: mr) ++ [93]))) rfl ?_ (OSet.head _) (evAll_cons rfl (ev_eq (d' := .str [[91], stuffF (m0 :: mr), [93]].flatten) (ev_fstr (evj_cons (ev_litE rfl) (evj_cons (ev_fval ?_ (small (by omega))) (evj_cons (ev_litE rfl) evj_nil))) (small ?_)) ?_) evAll_nil) rfl hil rfl rfl ?_
     iterate 2 (·ac_rfl)
     ·simp only [List.map_cons, List.map_nil, List.sum_cons, List.sum_nil, List.length_singleton]; omega
     ·simp only [List.flatten_cons, List.flatten_nil, List.append_nil]; rfl
     refine ex_nil <| ex_nil <| ex_nil <| ex_nil <| ex_nil <| ex_nil <| ex_nil (ex_end ⟨k + 1, hk1, by omega, ?_, ?_⟩)
     ·walk_at "subs"
     ·rw [hits]; exact OSub.refl _
    ·refine ex_if (c := decide (e0 ∈ [94, 91])) (tst_cmp (n := 42) (d₁ := .str [e0]) (d₂ := .tup (dstrs [[94], [91]])) rfl (ev_item0 (c := e0) (r := er) rfl ?_ ev_int (by omega)) (ev_tup ?_ (by decide)) (cmp_in_tupE ?_)) (fun h => ?_) fun h => ?_
     ·ac_rfl
     ·show EvAll _ _ _ _ _ _ [.str [94], .str [91]]
      ac_rfl
     ·simp
     ·refine ex_assign (d := .str (stuffF (m0 :: mr))) (by kernel_rfl) rfl (ev_eq (d' := .str ([92] ++ (e0 :: er))) (ev_binop (ev_litE (l := [92]) rfl) ?_ (bin_cat' (by simp only [List.length_cons, List.length_nil]; omega))) (by rw [hst, if_pos (of_decide_eq_true h)]; rfl)) (ex_nil (ex_nil (key _ _ ⟨?_, rfl⟩)))
      ·ac_rfl
      ·walk_at "subs"
     ·refine ex_nil (ex_nil (key _ _ ⟨?_, rfl⟩))
      rw [hst, if_neg (of_decide_eq_false h)]
      walk_at "subs"
  ·cases hxk with
   | q => (injection hc0 with y0; subst y0); injection h63
   | set m h => (injection hc0 with y0; subst y0); injection h91
   | lone c h1 h2 =>
    (injection hc0 with y0; subst y0)
    refine ex_add (a := a) (ds := rs) (d := .str (reescF c)) rfl ?_ (OSet.head _) (evAll_cons rfl (ev_call (f := 185) (ds := [.str [c]]) ?_ (by rw [hK']; kernel_rfl) ?_ rfl ((escape_is hK' c h1).le (by decide)) rfl) evAll_nil) rfl hil rfl rfl ?_
    iterate 3 (·ac_rfl)
    refine ex_nil (ex_nil (ex_nil (ex_nil (ex_end ⟨k + 1, hk1, by omega, ?_, ?_⟩))))
    ·walk_at "subs"
     rw [hp1]; rfl
    ·rw [hits]; exact OSub.refl _
 ·have hkk : k = ps.length := Nat.le_antisymm hk (Nat.not_lt.mp (of_decide_eq_false hc))
  subst hkk
  have hpe : posP ps ps.length = (textP ps).length := by unfold posP; rw [List.take_length]
  rw [List.take_length, hpe]
  refine ex_assert (c := true) (tstE (tst_cmp (n := 42) (d₁ := .int (textP ps).length) (d₂ := .int (textP ps).length) rfl ?_ ?_ cmp_eq_int) (beq_self_eq_true _)) rfl ?_
  ·exact ev_name lk_here (by kernel_rfl) (by kernel_rfl)
  ·exact ev_name (lk_next (by kernel_rfl) lk_here) (by kernel_rfl) (by kernel_rfl)
  refine ex_freeze_head "res" (a := a) (ds := dstrs (ps.map (·.2))) (lk_next (by kernel_rfl) (lk_next (by kernel_rfl) (lk_next (by kernel_rfl) lk_here))) ha ?_
  refine ex_ret (d := .list (dstrs (ps.map (·.2)))) ?_ ⟨rfl, rfl⟩
  exact ev_name lk_here (by kernel_rfl) (by kernel_rfl)
end
theorem reescF_len (c : Nat) : (reescF c).length ≤ 2 := by unfold reescF; split <;> exact Nat.le_of_ble_eq_true rfl
theorem stuffF_len {m : List Nat} (h : m.length ≤ 8) : (stuffF m).length ≤ 17 := by
 have := (escM_len m).2
 unfold stuffF
 split
 ·rw [List.length_cons]; omega
 ·omega
theorem PatOk.len2 {a : List Nat × List Nat} (h : PatOk a) : a.2.length ≤ 40 := by
 cases h with
 | q => exact Nat.le_of_ble_eq_true rfl
 | lone c _ _ => have := reescF_len c; show (reescF c).length ≤ _; omega
 | set m h => have := stuffF_len h.len; show (91 :: (stuffF m ++ [93])).length ≤ _; rw [List.length_cons, List.length_append, List.length_singleton]; omega
section
variable {P : Params} {G : Gd} (hK : G.K = K02 P)
include hK
set_option maxHeartbeats 2000000
theorem translate_is (ps : List (List Nat × List Nat)) (hps : ∀ a ∈ ps, PatOk a) (hl : ps.length ≤ 8) : FnG G 100 (.ref 173) [.str (textP ps)] [(187, pit)] (fun d c' => d = .str (glueT (ps.map (·.2))) ∧ c' = [(187, pit)]) := by
 refine fnG_K (n := 99) hK [("pat", .str (textP ps))] [(187, pit)] (R' := fun _ d _ c' => d = .str (glueT (ps.map (·.2))) ∧ c' = [(187, pit)]) rfl rfl rfl ?_ rfl rfl rfl rfl rfl rfl rfl rfl ?_ no_cells
 ·intro vs hv; refine el11 (len1 hv) fun a y0 => ?_; subst y0; kernel_rfl
 intro G' hK' _ X L
 refine ex_object (by kernel_rfl) rfl ?_ fun st => ?_
 ·ac_rfl
 refine ex_assignG (by kernel_rfl) rfl (evG_call (f := 192) (ds := [.str (textP ps), own st, .str [46]]) (c := [(187, pit)]) (r := []) ?_ (by rw [hK']; kernel_rfl) (evAll_cons rfl ?_ (evAll_cons rfl ?_ (evAll_cons rfl (ev_litE rfl) evAll_nil))) rfl ((trans_is hK' st ps hps hl).le (by decide)) rfl) ?_
 iterate 3 (·ac_rfl)
 intro d _ y0; refine el12 y0 fun c' y0 => ?_; refine el02 y0 fun y0 => ?_; subst y0; intro y0; subst y0; intro y0; subst y0; intro _
 refine ex_ret (d := .str (glueT (ps.map (·.2)))) (ev_call (f := 199) (ds := [.list (dstrs (ps.map (·.2))), own st]) ?_ (by rw [hK']; kernel_rfl) ?_ rfl ((glue_is hK' st (ps.map (·.2)) (by rw [List.length_map]; exact hl) fun p hp => ?_).le (by decide)) rfl) ⟨rfl, rfl⟩
 iterate 2 (·ac_rfl)
 ·refine el12 (List.mem_map.mp hp) fun a ha y0 => ?_; subst y0
  exact (hps a ha).len2
end
theorem mem_turn {s : List Nat} {c : Nat} : c ∈ turnF s ↔ c ∈ s := by unfold turnF; split <;> simp
theorem nodup_one {g : List Nat} {c : Nat} (hd : g.Nodup) (hn : g ≠ []) (h : ∀ x ∈ g, x = c) : g = [c] := by
 match g, hn with
 | [a], _ => rw [h a (.head _)]
 | a :: b :: r, _ =>
  rw [h a (.head _), h b (.tail _ (.head _))] at hd
  exact absurd (.head _) (List.nodup_cons.mp hd).1
theorem lone_iff {g : List Nat} (h : loneF g = true) : ∃ c, g = [c] ∧ c ∉ [42, 63, 91] := by
 unfold loneF at h
 rw [Bool.and_eq_true, beq_iff_eq, Bool.not_eq_true', decide_eq_false_iff_not] at h
 match g, h with
 | [c], ⟨_, h⟩ => exact ⟨c, rfl, h⟩
structure GroupOk (g : List Nat) : Prop where
 ne : g ≠ []
 nd : g.Nodup
 len : g.length ≤ 4
 stock : ∀ c ∈ g, c ∈ STOCK
noncomputable def setG (g : List Nat) : List Nat := turnF (bagF g)
theorem mem_set {g : List Nat} {c : Nat} : c ∈ setG g ↔ c ∈ g := mem_turn.trans mem_bag
theorem not_one {g : List Nat} (hg : GroupOk g) (hl : loneF g = false) {c : Nat} (hc : c ∉ [42, 63, 91]) (h : ∀ x ∈ g, x = c) : False := by
 rw [nodup_one hg.nd hg.ne h] at hl
 unfold loneF at hl
 rw [show ([c] : List Nat).headD 0 = c from rfl, decide_eq_false hc] at hl
 injection hl
theorem bag_tail (g : List Nat) : 93 ∉ (bagF g).tail := fun h => by
 have h2 : 93 ∉ (g.filter fun c => !isSpec c) ++ [33, 45].filter fun c => decide (c ∈ g) := fun h => by
  refine Or.elim (List.mem_append.mp h) (fun h => ?_) (fun h => ?_)
  ·exact absurd (List.mem_filter.mp h).2 (by decide)
  ·exact absurd (List.mem_filter.mp h).1 (by decide)
 unfold bagF at h
 rw [List.append_assoc] at h
 split at h
 ·exact h2 h
 ·exact h2 (List.mem_of_mem_tail h)
theorem bag_dash {g : List Nat} (h : 45 ∈ bagF g) : ∃ m', bagF g = m' ++ [45] ∧ 45 ∉ m' := by
 have h' := mem_bag.mp h
 refine ⟨((if 93 ∈ g then [93] else []) ++ g.filter fun c => !isSpec c) ++ [33].filter fun c => decide (c ∈ g), ?_, fun q => ?_⟩
 ·unfold bagF
  rw [List.append_assoc (_ ++ _)]
  refine congrArg _ ?_
  show List.filter _ ([33] ++ [45]) = _
  rw [List.filter_append]
  refine congrArg _ ?_
  exact List.filter_cons_of_pos (p := fun c => decide (c ∈ g)) (decide_eq_true h')
 ·refine Or.elim (List.mem_append.mp q) (fun q => ?_) (fun q => ?_)
  ·refine Or.elim (List.mem_append.mp q) (fun q => ?_) (fun q => ?_)
   ·split at q
    ·exact absurd q (by decide)
    ·cases q
   ·exact absurd (List.mem_filter.mp q).2 (by decide)
  ·exact absurd (List.mem_filter.mp q).1 (by decide)
theorem set_ok {g : List Nat} (hg : GroupOk g) (hl : loneF g = false) : SetOk (setG g) := by
 by_cases h33 : (bagF g).headD 0 = 33
 ·have e : bagF g = [33, 45] := by
   refine Or.elim (bag_cases h33) (fun e => ?_) (fun e => ?_)
   ·exact (not_one hg hl (c := 33) (by decide) fun x hx => by rw [← mem_bag, e] at hx; exact List.mem_singleton.mp hx).elim
   ·exact e
  have e2 : setG g = [45, 33] := by unfold setG turnF; rw [if_pos h33, e]; rfl
  exact ⟨by rw [e2]; decide, fun c hc => hg.stock c (mem_set.mp hc), ⟨45, [33], e2, by decide, by decide⟩, fun _ => .inl e2⟩
 ·have e2 : setG g = bagF g := if_neg h33
  have hb := bag_len g
  have hgl := hg.len
  refine ⟨by rw [e2]; omega, fun c hc => hg.stock c (mem_set.mp hc), ?_, fun h45 => .inr ?_⟩
  ·rw [e2]
   have ht := bag_tail g
   cases hbg : bagF g with
   | nil =>
    refine el11 (List.exists_mem_of_ne_nil g hg.ne) fun x hx => ?_
    rw [← mem_bag, hbg] at hx; cases hx
   | cons c r => rw [hbg] at h33 ht; exact ⟨c, r, rfl, h33, ht⟩
  ·rw [e2] at h45 ⊢
   refine el12 (bag_dash h45) fun m' e hn => ?_
   refine ⟨m', e, fun z => ?_, hn⟩
   rw [z] at e
   exact not_one hg hl (c := 45) (by decide) fun x hx => by rw [← mem_bag, e] at hx; exact List.mem_singleton.mp hx
theorem bare_esc : ∀ (m : List Nat) (a : List Nat), (escM m).foldl bareS (a, false) = (a ++ m, false)
 | [], a => by rw [List.append_nil]; rfl
 | c :: m, a => by
  have e : escM (c :: m) = dblF c ++ escM m := List.flatMap_cons ..
  have hc : (dblF c).foldl bareS (a, false) = (a ++ [c], false) := by
   unfold dblF
   by_cases h : c = 92
   ·rw [if_pos h, h]; rfl
   ·rw [if_neg h]
    by_cases h2 : c = 45
    ·rw [if_pos h2, h2]; rfl
    ·rw [if_neg h2]
     show bareS (a, false) c = _
     unfold bareS
     rw [if_neg (by simp [h])]; rfl
  rw [e, List.foldl_append, hc, bare_esc m, List.append_assoc]; rfl
theorem esc_cons (c : Nat) (r : List Nat) : escM (c :: r) = dblF c ++ escM r := List.flatMap_cons ..
theorem bare_stuff (m : List Nat) : (bareR (stuffF m)).1 = m := by
 unfold stuffF bareR
 by_cases h : (escM m).headD 0 ∈ [94, 91]
 ·rw [if_pos h]
  cases m with
  | nil => exact absurd h (by decide)
  | cons c r =>
   have hc : c ∈ [94, 91] := by
    rw [esc_cons] at h
    unfold dblF at h
    by_cases q : c = 92
    ·rw [if_pos q] at h; exact absurd (show (92 : Nat) ∈ [94, 91] from h) (by decide)
    ·rw [if_neg q] at h
     by_cases q2 : c = 45
     ·rw [if_pos q2] at h; exact absurd (show (92 : Nat) ∈ [94, 91] from h) (by decide)
     ·rw [if_neg q2] at h; exact h
   have e : escM (c :: r) = c :: escM r := by
    rw [esc_cons]
    simp only [List.mem_cons, List.not_mem_nil, or_false] at hc
    focus (refine Or.elim hc (fun y0 => ?_) (fun y0 => ?_); subst y0; rotate_left; subst y0; rotate_left) <;> rfl
   rw [e]
   show ((escM r).foldl bareS (bareS ([], true) c)).1 = _
   have e2 : bareS ([], true) c = ([c], false) := by
    simp only [List.mem_cons, List.not_mem_nil, or_false] at hc
    focus (refine Or.elim hc (fun y0 => ?_) (fun y0 => ?_); subst y0; rotate_left; subst y0; rotate_left) <;> rfl
   rw [e2, bare_esc]; rfl
 ·rw [if_neg h, bare_esc]; rfl
theorem esc_nin93 {m : List Nat} (h : 93 ∉ m) : 93 ∉ escM m := fun q => by
 refine el12 (List.mem_flatMap.mp q) fun b hb hc => ?_
 unfold dblF at hc
 split at hc
 ·exact absurd hc (by decide)
 ·split at hc
  ·exact absurd hc (by decide)
  ·exact h (List.mem_singleton.mp hc ▸ hb)
set_option tactic.hygienic true in
theorem stuff_ok {m : List Nat} (hm : SetOk m) : AtomOk (91 :: (stuffF m ++ [93]), .str m) := by
 have h := AtomOk.set (stuffF m) ?_ ?_ ?_ ?_
 ·rwa [bare_stuff] at h
 ·have := stuffF_len hm.len; omega
 all_goals refine el23 hm.head fun c r y0 => ?_; subst y0; intro h33 h93
 ·unfold stuffF
  split
  ·exact List.cons_ne_nil _ _
  ·intro z; have := (escM_len (c :: r)).1; rw [z] at this; cases this
 ·unfold stuffF
  split
  ·exact (by decide : (92 : Nat) ≠ 94)
  ·rename_i h; intro z; rw [z] at h; exact h (.head _)
 ·unfold stuffF
  by_cases h : (escM (c :: r)).headD 0 ∈ [94, 91]
  ·rw [if_pos h]
   refine esc_nin93 fun q => ?_
   refine Or.elim (List.mem_cons.mp q) (fun e => ?_) (fun q => ?_)
   ·rw [esc_cons, ← e] at h; exact absurd (show (93 : Nat) ∈ [94, 91] from h) (by decide)
   ·exact h93 q
  ·rw [if_neg h, esc_cons]
   intro q
   have : 93 ∉ escM r := esc_nin93 h93
   unfold dblF at q
   split at q
   ·refine Or.elim (List.mem_cons.mp q) (fun e => ?_) (fun q => ?_)
    ·(injection e with y0; injection y0 with y2; injection y2 with y4; injection y4 with y6; injection y6 with y8; injection y8 with y10; injection y10 with y12; injection y12 with y14; injection y14 with y16; injection y16 with y18; injection y18 with y20; injection y20 with y22; injection y22 with y24; injection y24 with y26; injection y26 with y28; injection y28 with y30; injection y30 with y32; injection y32 with y34; injection y34 with y36; injection y36 with y38; injection y38 with y40; injection y40 with y42; injection y42 with y44; injection y44 with y46; injection y46 with y48; injection y48 with y50; injection y50 with y52; injection y52 with y54; injection y54 with y56; injection y56 with y58; injection y58 with y60; injection y60 with y62; injection y62 with y64; injection y64 with y66; injection y66 with y68; injection y68 with y70; injection y70 with y72; injection y72 with y74; injection y74 with y76; injection y76 with y78; injection y78 with y80; injection y80 with y82; injection y82 with y84; injection y84 with y86; injection y86 with y88; injection y88 with y90; injection y90 with y92; injection y92 with y94; injection y94 with y96; injection y96 with y98; injection y98 with y100; injection y100 with y102; injection y102 with y104; injection y104 with y106; injection y106 with y108; injection y108 with y110; injection y110 with y112; injection y112 with y114; injection y114 with y116; injection y116 with y118; injection y118 with y120; injection y120 with y122; injection y122 with y124; injection y124 with y126; injection y126 with y128; injection y128 with y130; injection y130 with y132; injection y132 with y134; injection y134 with y136; injection y136 with y138; injection y138 with y140; injection y140 with y142; injection y142 with y144; injection y144 with y146; injection y146 with y148; injection y148 with y150; injection y150 with y152; injection y152 with y154; injection y154 with y156; injection y156 with y158; injection y158 with y160; injection y160 with y162; injection y162 with y164; injection y164 with y166; injection y166 with y168; injection y168 with y170; injection y170 with y172; injection y172 with y174; injection y174 with y176; injection y176 with y178; injection y178 with y180; injection y180 with y182; injection y182)
    ·exact this q
   ·split at q
    ·refine Or.elim (List.mem_cons.mp q) (fun e => ?_) (fun q => ?_)
     ·(injection e with y0; injection y0 with y2; injection y2 with y4; injection y4 with y6; injection y6 with y8; injection y8 with y10; injection y10 with y12; injection y12 with y14; injection y14 with y16; injection y16 with y18; injection y18 with y20; injection y20 with y22; injection y22 with y24; injection y24 with y26; injection y26 with y28; injection y28 with y30; injection y30 with y32; injection y32 with y34; injection y34 with y36; injection y36 with y38; injection y38 with y40; injection y40 with y42; injection y42 with y44; injection y44 with y46; injection y46 with y48; injection y48 with y50; injection y50 with y52; injection y52 with y54; injection y54 with y56; injection y56 with y58; injection y58 with y60; injection y60 with y62; injection y62 with y64; injection y64 with y66; injection y66 with y68; injection y68 with y70; injection y70 with y72; injection y72 with y74; injection y74 with y76; injection y76 with y78; injection y78 with y80; injection y80 with y82; injection y82 with y84; injection y84 with y86; injection y86 with y88; injection y88)
     ·exact this q
    ·exact this q
theorem lone_atom {c : Nat} (hc : c ∈ STOCK) : AtomOk (reescF c, .str [c]) := by
 have : ∀ c ∈ STOCK, specialF c = true ∧ c ≠ 97 ∨ specialF c = false ∧ c ∈ [97, 33, 34] := by decide +kernel
 unfold reescF
 rcases this c hc with ⟨a, b⟩ | ⟨a, b⟩
 ·rw [if_pos a]; exact .esc c b
 ·rw [if_neg (by rw [a]; decide)]; exact .bare c b
structure Place where
 pat : List Nat
 rule : List Nat
 it : Option (List Nat)
structure Place.Ok (p : Place) : Prop where
 pat : PatOk (p.pat, p.rule)
 atom : AtomOk (p.rule, optD p.it)
noncomputable def dotP : Place := ⟨[63], [46], none⟩
theorem dotP_ok : dotP.Ok := ⟨.q, .dot⟩
noncomputable def placeG (g : List Nat) : Place := ⟨itemF g, if loneF g = true then reescF (g.headD 0) else 91 :: (stuffF (setG g) ++ [93]), some (if loneF g = true then g else setG g)⟩
theorem placeG_ok {g : List Nat} (hg : GroupOk g) : (placeG g).Ok := by
 unfold placeG itemF
 cases hl : loneF g with
 | true =>
  refine el12 (lone_iff hl) fun c y0 => ?_; subst y0; intro hc
  have hs := hg.stock c (.head _)
  exact ⟨.lone c hs hc, lone_atom hs⟩
 | false =>
  have hm := set_ok hg hl
  exact ⟨.set _ hm, stuff_ok hm⟩
theorem placeG_mem {g : List Nat} {c : Nat} : fitF ((placeG g).it, c) = decide (c ∈ g) := by
 show decide (c ∈ if loneF g = true then g else setG g) = _
 rw [decide_eq_decide]
 split
 ·exact Iff.rfl
 ·exact mem_set
noncomputable def rowP (l : Nat) (g : List Nat) : List Place := List.replicate l dotP ++ placeG g :: List.replicate (2 - l) dotP
theorem rowP_ok {l : Nat} {g : List Nat} (hg : GroupOk g) : ∀ p ∈ rowP l g, p.Ok := fun p hp => by
 refine Or.elim (List.mem_append.mp hp) (fun h => ?_) (fun h => ?_)
 ·rw [(List.mem_replicate.mp h).2]; exact dotP_ok
 ·focus (refine Or.elim (List.mem_cons.mp h) (fun y0 => ?_) (fun h => ?_); subst y0)
  ·exact placeG_ok hg
  ·rw [(List.mem_replicate.mp h).2]; exact dotP_ok
noncomputable def patsOf (ps : List Place) : List (List Nat × List Nat) := ps.map fun p => (p.pat, p.rule)
noncomputable def atomsOf (ps : List Place) : List (List Nat × D) := ps.map fun p => (p.rule, optD p.it)
theorem glue_piece (ps : List Place) : glueT ((patsOf ps).map (·.2)) = pieceT (atomsOf ps) := by
 unfold glueT pieceT textsA patsOf atomsOf
 rw [List.map_map, List.flatMap_map]
 rfl
theorem row_text {l : Nat} (hl : l < 3) (g : List Nat) : textP (patsOf (rowP l g)) = List.replicate l 63 ++ (itemF g ++ List.replicate (2 - l) 63) := by
 match l, hl with
 | 0, _ => rfl
 | 1, _ => rfl
 | 2, _ => rfl
theorem row_fits {l : Nat} (hl : l < 3) (g w : List Nat) (hw : w.length = 3) : ((((rowP l g).map (·.it)).zip w).all fitF) = decide (w.getD l 0 ∈ g) := by
 match w, hw with
 | [a, b, c], _ =>
  match l, hl with
  | 0, _ => show (fitF _ && (true && (true && true))) = _; rw [placeG_mem]; exact Bool.and_true _
  | 1, _ => show (true && (fitF _ && (true && true))) = _; rw [placeG_mem]; exact Bool.and_true _
  | 2, _ => show (true && (true && (fitF _ && true))) = _; rw [placeG_mem]; exact Bool.and_true _
section
variable {α : Type} [DecidableEq α] (succ : α → List α) (ok tgt src : α → Bool)
noncomputable def Rch : Nat → α → Prop
 | 0, x => src x = true
 | n + 1, x => ∃ y, Rch n y ∧ x ∈ succ y ∧ ok x = true
structure Bf (q : List α) (f : α → Option Nat) (g : α) (t j : Nat) : Prop where
 beg : ∀ x, src x = true → f x ≠ none
 snd : ∀ x n, f x = some n → Rch succ ok src n x ∧ ∀ m, m < n → ¬ Rch succ ok src m x
 cur : f g = some t
 que : ∀ x ∈ q, ∃ n, f x = some n ∧ t ≤ n ∧ n ≤ t + 1
 srt : q.Pairwise fun x y => ∀ n m, f x = some n → f y = some m → n ≤ m
 cls : ∀ x n, f x = some n → x ∉ q → x ≠ g → ∀ y ∈ succ x, ok y = true → f y ≠ none ∧ tgt y = false
 clg : ∀ y ∈ (succ g).take j, ok y = true → f y ≠ none ∧ tgt y = false
variable {succ ok tgt src} {q : List α} {f : α → Option Nat} {g : α} {t j : Nat}
theorem Bf.known (h : Bf succ ok tgt src q f g t j) : ∀ m x, m ≤ t → Rch succ ok src m x → f x ≠ none := by
 intro m
 induction m with
 | zero => intro x _ hx; exact h.beg x hx
 | succ m ih =>
  intro x hm y0; refine el13 y0 fun y hy hx ho => ?_
  have hk := ih y (by omega) hy
  refine el11 (Option.ne_none_iff_exists'.mp hk) fun n hn => ?_
  have hnm : n ≤ m := Nat.not_lt.mp fun z => (h.snd y n hn).2 m z hy
  refine (h.cls y n hn (fun hq => ?_) (fun e => ?_) x hx ho).1
  ·refine el13 (h.que y hq) fun n' h1 h2 _ => ?_
   rw [hn] at h1; (injection h1 with y0; subst y0); omega
  ·subst e; rw [h.cur] at hn; (injection hn with y0; subst y0); omega
theorem Bf.none_near (h : Bf succ ok tgt src q f g t j) (hs : ∀ x, src x = true → tgt x = false) : ∀ m x, m ≤ t → Rch succ ok src m x → tgt x = false := by
 intro m
 cases m with
 | zero => intro x _ hx; exact hs x hx
 | succ m =>
  intro x hm y0; refine el13 y0 fun y hy hx ho => ?_
  refine el11 (Option.ne_none_iff_exists'.mp (h.known m y (by omega) hy)) fun n hn => ?_
  have hnm : n ≤ m := Nat.not_lt.mp fun z => (h.snd y n hn).2 m z hy
  refine (h.cls y n hn (fun hq => ?_) (fun e => ?_) x hx ho).2
  ·refine el13 (h.que y hq) fun n' h1 h2 _ => ?_
   rw [hn] at h1; (injection h1 with y0; subst y0); omega
  ·subst e; rw [h.cur] at hn; (injection hn with y0; subst y0); omega
set_option tactic.hygienic true in
theorem Bf.way (h : Bf succ ok tgt src q f g t j) {a : α} (ha : (succ g)[j]? = some a) {q' : List α} {f' : α → Option Nat}
  (hn : ok a = true → f a = none → q' = q ++ [a] ∧ f' = fun x => if x = a then some (t + 1) else f x) (ho : ok a = true → f a ≠ none → q' = q ∧ f' = f) (hb : ok a = false → q' = q ∧ f' = f) (ht : tgt a = false) : Bf succ ok tgt src q' f' g t (j + 1) := by
 have hm : a ∈ succ g := List.mem_of_getElem? ha
 have htk : (succ g).take (j + 1) = (succ g).take j ++ [a] := by rw [List.take_add_one, ha]; rfl
 have same : f a ≠ none ∨ ok a = false → q' = q → f' = f → Bf succ ok tgt src q' f' g t (j + 1) := fun hk e1 e2 => by
  subst e1 e2
  refine ⟨h.beg, h.snd, h.cur, h.que, h.srt, h.cls, fun y hy hoy => ?_⟩
  rw [htk] at hy
  refine Or.elim (List.mem_append.mp hy) (fun z => ?_) (fun z => ?_)
  ·exact h.clg y z hoy
  ·rw [List.mem_singleton.mp z] at hoy ⊢
   refine Or.elim hk (fun hk => ?_) (fun hk => ?_)
   ·exact ⟨hk, ht⟩
   ·rw [hk] at hoy; injection hoy
 cases hok : ok a with
 | false => exact same (.inr hok) (hb hok).1 (hb hok).2
 | true =>
  by_cases hf : f a = none
  ·refine el02 (hn hok hf) fun y0 => ?_; subst y0; intro y0; subst y0
   have hold : ∀ x n, f x = some n → (if x = a then some (t + 1) else f x) = some n := fun x n e => by
    rw [if_neg (fun z => by rw [z, hf] at e; injection e)]; exact e
   have hne : ∀ x, f x ≠ none → (if x = a then some (t + 1) else f x) ≠ none := fun x e => by
    split
    ·intro z; injection z
    ·exact e
   have hga : g ≠ a := fun z => by have := h.cur; rw [z, hf] at this; injection this
   refine ⟨fun x hx => hne x (h.beg x hx), fun x n e => ?_, hold g t h.cur, fun x hx => ?_, ?_, fun x n e hx hg y hy hoy => ?_, fun y hy hoy => ?_⟩
   ·split at e
    ·rename_i z
     subst z
     (injection e with y0; subst y0)
     refine ⟨⟨g, (h.snd g t h.cur).1, hm, hok⟩, fun m hm' hr => ?_⟩
     exact h.known m x (by omega) hr hf
    ·exact h.snd x n e
   ·refine Or.elim (List.mem_append.mp hx) (fun z => ?_) (fun z => ?_)
    ·refine el13 (h.que x z) fun n h1 h2 h3 => ?_
     exact ⟨n, hold x n h1, h2, h3⟩
    ·rw [List.mem_singleton.mp z]
     exact ⟨t + 1, if_pos rfl, Nat.le_succ t, Nat.le_refl _⟩
   ·refine List.pairwise_append.mpr ⟨?_, List.pairwise_singleton _ _, fun x hx y hy n m e1 e2 => ?_⟩
    ·refine h.srt.imp_of_mem fun {x y} hx hy e n m e1 e2 => ?_
     refine el12 (h.que x hx) fun n' h1 _ => ?_
     refine el12 (h.que y hy) fun m' h2 _ => ?_
     rw [hold x n' h1] at e1; rw [hold y m' h2] at e2
     (injection e1 with y0; subst y0); (injection e2 with y0; subst y0)
     exact e _ _ h1 h2
    ·refine el13 (h.que x hx) fun n' h1 h2 h3 => ?_
     rw [hold x n' h1] at e1; (injection e1 with y0; subst y0)
     rw [List.mem_singleton.mp hy, if_pos rfl] at e2; (injection e2 with y0; subst y0)
     exact h3
   ·have hxa : x ≠ a := fun z => hx (List.mem_append.mpr (.inr (by rw [z]; exact List.mem_singleton.mpr rfl)))
    rw [if_neg hxa] at e
    have := h.cls x n e (fun z => hx (List.mem_append.mpr (.inl z))) hg y hy hoy
    exact ⟨hne y this.1, this.2⟩
   ·rw [htk] at hy
    refine Or.elim (List.mem_append.mp hy) (fun z => ?_) (fun z => ?_)
    ·have := h.clg y z hoy; exact ⟨hne y this.1, this.2⟩
    ·rw [List.mem_singleton.mp z]; exact ⟨by rw [if_pos rfl]; exact Option.some_ne_none _, ht⟩
  ·exact same (.inl hf) (ho hok hf).1 (ho hok hf).2
theorem Bf.next {g' : α} {t' : Nat} (h : Bf succ ok tgt src (g' :: q) f g t j) (hj : (succ g).length ≤ j) (ht : f g' = some t') : Bf succ ok tgt src q f g' t' 0 := by
 refine el13 (h.que g' (List.mem_cons_self ..)) fun n h1 h2 h3 => ?_
 rw [ht] at h1; (injection h1 with y0; subst y0)
 have hp := List.pairwise_cons.mp h.srt
 refine ⟨h.beg, h.snd, ht, fun x hx => ?_, hp.2, fun x n e hx hg y hy hoy => ?_, fun y hy => by cases hy⟩
 ·refine el13 (h.que x (List.mem_cons_of_mem _ hx)) fun m e e2 e3 => ?_
  exact ⟨m, e, hp.1 x hx _ _ ht e, by omega⟩
 ·by_cases hxg : x = g
  ·subst hxg
   exact h.clg y (by rw [List.take_of_length_le hj]; exact hy) hoy
  ·exact h.cls x n e (fun z => (List.mem_cons.mp z).elim hg hx) hxg y hy hoy
theorem Bf.found (h : Bf succ ok tgt src q f g t j) (hs : ∀ x, src x = true → tgt x = false) {a : α} (ha : a ∈ succ g) (ho : ok a = true) (ht : tgt a = true) {n : Nat} (hn : (f a = none ∧ n = t + 1) ∨ f a = some n) :
  (∃ x, Rch succ ok src n x ∧ tgt x = true) ∧ ∀ m, m < n → ∀ x, Rch succ ok src m x → tgt x = false := by
 have hr : Rch succ ok src (t + 1) a := ⟨g, (h.snd g t h.cur).1, ha, ho⟩
 have hk : Rch succ ok src n a ∧ n ≤ t + 1 := by
  rcases hn with ⟨_, rfl⟩ | hn
  ·exact ⟨hr, Nat.le_refl _⟩
  ·exact ⟨(h.snd a n hn).1, Nat.not_lt.mp fun z => (h.snd a n hn).2 (t + 1) z hr⟩
 exact ⟨⟨a, hk.1, ht⟩, fun m hm x hx => h.none_near hs m x (by omega) hx⟩
theorem Bf.over (h : Bf succ ok tgt src [] f g t j) (hj : (succ g).length ≤ j) (hs : ∀ x, src x = true → tgt x = false) : ∀ m x, Rch succ ok src m x → tgt x = false := by
 have cl : ∀ x n, f x = some n → ∀ y ∈ succ x, ok y = true → f y ≠ none ∧ tgt y = false := fun x n e y hy hoy => by
  by_cases hxg : x = g
  ·subst hxg; exact h.clg y (by rw [List.take_of_length_le hj]; exact hy) hoy
  ·exact h.cls x n e (by simp) hxg y hy hoy
 have kn : ∀ m x, Rch succ ok src m x → f x ≠ none := by
  intro m
  induction m with
  | zero => exact fun x hx => h.beg x hx
  | succ m ih =>
   intro x y0; refine el13 y0 fun y hy hx ho => ?_
   refine el11 (Option.ne_none_iff_exists'.mp (ih y hy)) fun n hn => ?_
   exact (cl y n hn x hx ho).1
 intro m
 cases m with
 | zero => exact fun x hx => hs x hx
 | succ m =>
  intro x y0; refine el13 y0 fun y hy hx ho => ?_
  refine el11 (Option.ne_none_iff_exists'.mp (kn m y hy)) fun n hn => ?_
  exact (cl y n hn x hx ho).2
end
section
variable (deck : List Nat) (δ : Nat → Nat → Nat)
noncomputable def img (l : Nat) (g : List Nat) : List Nat := deck.filter fun x => (g.map (δ l)).contains x
noncomputable def pre (l : Nat) (g : List Nat) : List Nat := deck.filter fun x => g.contains (δ l x)
noncomputable def run (w : List Nat) (x : Nat) : Nat := w.foldl (fun x l => δ l x) x
noncomputable def forthW (g : List Nat) : List (List Nat) := (List.range 3).map fun l => img deck δ l g
noncomputable def backW (g : List Nat) : List (List Nat) := (List.range 3).map fun l => pre deck δ l g
noncomputable def Syn (n : Nat) : Prop := ∃ w : List Nat, w.length = n ∧ (∀ l ∈ w, l < 3) ∧ ∃ q ∈ deck, ∀ x ∈ deck, run δ w x = q
variable {deck δ}
theorem mem_img {l : Nat} {g : List Nat} {y : Nat} : y ∈ img deck δ l g ↔ y ∈ deck ∧ ∃ x ∈ g, δ l x = y := by
 rw [img, List.mem_filter, List.contains_iff_mem, List.mem_map]
theorem mem_pre {l : Nat} {g : List Nat} {y : Nat} : y ∈ pre deck δ l g ↔ y ∈ deck ∧ δ l y ∈ g := by
 rw [pre, List.mem_filter, List.contains_iff_mem]
theorem run_append {u w : List Nat} {x : Nat} : run δ (u ++ w) x = run δ w (run δ u x) := List.foldl_append ..
variable (hδ : ∀ l x, x ∈ deck → δ l x ∈ deck) (hn : deck.Nodup) (h2 : 2 ≤ deck.length)
include hδ
theorem run_mem {w : List Nat} {x : Nat} (hx : x ∈ deck) : run δ w x ∈ deck := by
 induction w generalizing x with
 | nil => exact hx
 | cons l w ih => exact ih (hδ l x hx)
theorem mem_imgs {w : List Nat} {y : Nat} : y ∈ w.foldl (fun g l => img deck δ l g) deck ↔ y ∈ deck ∧ ∃ x ∈ deck, run δ w x = y := by
 suffices h : ∀ (w : List Nat) (g : List Nat), (∀ x ∈ g, x ∈ deck) → (y ∈ w.foldl (fun g l => img deck δ l g) g ↔ ∃ x ∈ g, run δ w x = y) by
  rw [h w deck fun _ h => h]
  exact ⟨fun ⟨x, hx, e⟩ => ⟨e ▸ run_mem hδ hx, x, hx, e⟩, fun h => h.2⟩
 intro w
 induction w with
 | nil => exact fun g hg => ⟨fun h => ⟨y, h, rfl⟩, fun ⟨x, hx, e⟩ => e ▸ hx⟩
 | cons l w ih =>
  intro g hg
  show y ∈ w.foldl (fun g l => img deck δ l g) (img deck δ l g) ↔ _
  rw [ih _ fun x hx => (mem_img.mp hx).1]
  constructor
  ·intro y0; refine el12 y0 fun x hx e => ?_
   obtain ⟨_, z, hz, rfl⟩ := mem_img.mp hx
   exact ⟨z, hz, e⟩
  ·intro y0; refine el12 y0 fun x hx e => ?_
   exact ⟨δ l x, mem_img.mpr ⟨hδ l x (hg x hx), x, hx, rfl⟩, e⟩
omit hδ in
theorem rch_forth {n : Nat} {g : List Nat} : Rch (forthW deck δ) (fun _ => true) (fun g => g == deck) n g ↔ ∃ w : List Nat, w.length = n ∧ (∀ l ∈ w, l < 3) ∧ g = w.foldl (fun g l => img deck δ l g) deck := by
 induction n generalizing g with
 | zero =>
  constructor
  ·intro h; exact ⟨[], rfl, fun _ h => (nomatch h), beq_iff_eq.mp h⟩
  ·intro y0; refine el13 y0 fun w hw _ y0 => ?_; subst y0
   rw [List.length_eq_zero_iff.mp hw]; exact beq_iff_eq.mpr rfl
 | succ n ih =>
  constructor
  ·intro y0; refine el13 y0 fun y hy hx _ => ?_
   refine el13 (ih.mp hy) fun w hw hl y0 => ?_; subst y0
   refine el12 (List.mem_map.mp hx) fun l hl' y0 => ?_; subst y0
   refine ⟨w ++ [l], by rw [List.length_append, hw]; rfl, fun k hk => ?_, by rw [List.foldl_append]; rfl⟩
   refine Or.elim (List.mem_append.mp hk) (fun z => ?_) (fun z => ?_)
   ·exact hl k z
   ·rw [List.mem_singleton.mp z]; exact List.mem_range.mp hl'
  ·intro y0; refine el13 y0 fun w hw hl y0 => ?_; subst y0
   refine el21 ((by
    rcases List.eq_nil_or_concat w with rfl | ⟨u, l, e⟩
    ·cases hw
    ·exact ⟨u, l, by rw [e, List.concat_eq_append]⟩) : ∃ u l, w = u ++ [l]) fun u l y0 => ?_; subst y0
   rw [List.length_append] at hw
   refine ⟨_, ih.mpr ⟨u, Nat.succ.inj hw, fun k hk => hl k (List.mem_append.mpr (.inl hk)), rfl⟩, ?_, rfl⟩
   rw [List.foldl_append]
   exact List.mem_map.mpr ⟨l, List.mem_range.mpr (hl l (List.mem_append.mpr (.inr (List.mem_singleton.mpr rfl)))), rfl⟩
include hn h2
theorem forth_syn {n : Nat} : (∃ g, Rch (forthW deck δ) (fun _ => true) (fun g => g == deck) n g ∧ (g.length == 1) = true) ↔ Syn deck δ n := by
 constructor
 ·intro y0; refine el12 y0 fun g hg h1 => ?_
  refine el13 (rch_forth.mp hg) fun w hw hl y0 => ?_; subst y0
  refine el11 (List.length_eq_one_iff.mp (beq_iff_eq.mp h1)) fun q hq => ?_
  have hm : ∀ y, y ∈ w.foldl (fun g l => img deck δ l g) deck ↔ y = q := fun y => by rw [hq, List.mem_singleton]
  refine ⟨w, hw, hl, q, ((mem_imgs hδ).mp ((hm q).mpr rfl)).1, fun x hx => (hm _).mp ((mem_imgs hδ).mpr ⟨run_mem hδ hx, x, hx, rfl⟩)⟩
 ·intro y0; obtain ⟨w, hw, hl, q, hq, he⟩ := y0
  refine ⟨_, rch_forth.mpr ⟨w, hw, hl, rfl⟩, beq_iff_eq.mpr ?_⟩
  have hm : ∀ y, y ∈ w.foldl (fun g l => img deck δ l g) deck ↔ y = q := fun y => by
   rw [mem_imgs hδ]
   constructor
   ·intro y0; obtain ⟨_, x, hx, rfl⟩ := y0; exact he x hx
   ·rintro rfl
    refine el11 (List.exists_mem_of_length_pos (show 0 < deck.length by omega)) fun x hx => ?_
    exact ⟨hq, x, hx, he x hx⟩
  have hnd : (w.foldl (fun g l => img deck δ l g) deck).Nodup := by
   rcases List.eq_nil_or_concat w with rfl | ⟨u, l, rfl⟩
   ·exact hn
   ·rw [List.concat_eq_append, List.foldl_append]; exact hn.filter _
  generalize w.foldl (fun g l => img deck δ l g) deck = g at hm hnd
  match g, hm, hnd with
  | [], hm, _ => exact absurd ((hm q).mpr rfl) (by simp)
  | [_], _, _ => rfl
  | a :: b :: r, hm, hnd =>
   have e1 := (hm a).mp (by simp)
   have e2 := (hm b).mp (by simp)
   rw [e1, e2] at hnd
   simp at hnd
theorem back_syn {n : Nat} : (∃ g, Rch (backW deck δ) (fun g => !g.isEmpty) (fun g => deck.any fun d => g == [d]) n g ∧ (g == deck) = true) ↔ Syn deck δ n := by
 constructor
 ·intro y0; refine el12 y0 fun g hg h1 => ?_
  have key : ∀ n g, Rch (backW deck δ) (fun g => !g.isEmpty) (fun g => deck.any fun d => g == [d]) n g → ∃ w : List Nat, w.length = n ∧ (∀ l ∈ w, l < 3) ∧ ∃ q ∈ deck, ∀ y, y ∈ g ↔ y ∈ deck ∧ run δ w y = q := by
   intro n
   induction n with
   | zero =>
    intro g h
    refine el12 (List.any_eq_true.mp h) fun q hq e => ?_
    rw [beq_iff_eq.mp e]
    exact ⟨[], rfl, fun _ h => (nomatch h), q, hq, fun y => by rw [List.mem_singleton]; exact ⟨fun e => ⟨e ▸ hq, e⟩, fun h => h.2⟩⟩
   | succ n ih =>
    intro g y0; refine el13 y0 fun y hy hx _ => ?_
    obtain ⟨w, hw, hl, q, hq, hm⟩ := ih y hy
    refine el12 (List.mem_map.mp hx) fun l hl' y0 => ?_; subst y0
    refine ⟨l :: w, by rw [List.length_cons, hw], fun k hk => ?_, q, hq, fun z => ?_⟩
    ·refine Or.elim (List.mem_cons.mp hk) (fun z => ?_) (fun z => ?_)
     ·rw [z]; exact List.mem_range.mp hl'
     ·exact hl k z
    ·rw [mem_pre, hm]
     exact ⟨fun h => ⟨h.1, h.2.2⟩, fun h => ⟨h.1, hδ l z h.1, h.2⟩⟩
  obtain ⟨w, hw, hl, q, hq, hm⟩ := key n g hg
  rw [beq_iff_eq.mp h1] at hm
  exact ⟨w, hw, hl, q, hq, fun x hx => ((hm x).mp hx).2⟩
 ·intro y0; obtain ⟨w, hw, hl, q, hq, he⟩ := y0
  have key : ∀ w : List Nat, (∀ l ∈ w, l < 3) → (∃ y ∈ deck, run δ w y = q) → ∃ g, Rch (backW deck δ) (fun g => !g.isEmpty) (fun g => deck.any fun d => g == [d]) w.length g ∧ (∀ y, y ∈ g ↔ y ∈ deck ∧ run δ w y = q) ∧ (w ≠ [] → ∃ p : Nat → Bool, g = deck.filter p) := by
   intro w
   induction w with
   | nil => exact fun _ _ => ⟨[q], List.any_eq_true.mpr ⟨q, hq, beq_iff_eq.mpr rfl⟩, fun y => by rw [List.mem_singleton]; exact ⟨fun e => ⟨e ▸ hq, e⟩, fun h => h.2⟩, fun h => absurd rfl h⟩
   | cons l w ih =>
    intro hl y0; refine el12 y0 fun y hy e => ?_
    refine el13 (ih (fun k hk => hl k (List.mem_cons_of_mem _ hk)) ⟨δ l y, hδ l y hy, e⟩) fun g hg hm _ => ?_
    have hmm : ∀ z, z ∈ pre deck δ l g ↔ z ∈ deck ∧ run δ (l :: w) z = q := fun z => by
     rw [mem_pre, hm]
     exact ⟨fun h => ⟨h.1, h.2.2⟩, fun h => ⟨h.1, hδ l z h.1, h.2⟩⟩
    refine ⟨pre deck δ l g, ⟨g, hg, List.mem_map.mpr ⟨l, List.mem_range.mpr (hl l (List.mem_cons_self ..)), rfl⟩, ?_⟩, hmm, fun _ => ⟨_, rfl⟩⟩
    have := (hmm y).mpr ⟨hy, e⟩
    cases hp : pre deck δ l g with
    | nil => rw [hp] at this; cases this
    | cons a r => rfl
  refine el11 (List.exists_mem_of_length_pos (show 0 < deck.length by omega)) fun x hx => ?_
  refine el13 (key w hl ⟨x, hx, he x hx⟩) fun g hg hm hf => ?_
  refine ⟨g, hw ▸ hg, beq_iff_eq.mpr ?_⟩
  have hne : w ≠ [] := by
   rintro rfl
   have h1 : ∀ y ∈ deck, y = q := fun y hy => he y hy
   match deck, h2, hn, h1 with
   | a :: b :: r, _, hn, h1 =>
    rw [h1 a (by simp), h1 b (by simp)] at hn
    simp at hn
  refine el11 (hf hne) fun p y0 => ?_; subst y0
  exact List.filter_eq_self.mpr fun y hy => (List.mem_filter.mp ((hm y).mpr ⟨hy, he y hy⟩)).2
end
theorem nodup_le {A B : List Nat} (hA : A.Nodup) (h : ∀ x ∈ A, x ∈ B) : A.length ≤ B.length := by
 induction A generalizing B with
 | nil => exact Nat.zero_le _
 | cons a A ih =>
  refine el02 (List.nodup_cons.mp hA) fun h1 h2 => ?_
  have ha := h a (List.mem_cons_self ..)
  have := ih (B := B.erase a) h2 fun x hx => (List.mem_erase_of_ne fun e => h1 (by rw [← e]; exact hx)).mpr (h x (List.mem_cons_of_mem _ hx))
  rw [List.length_erase_of_mem ha] at this
  have := List.length_pos_of_mem ha
  rw [List.length_cons]; omega
section
variable {deck : List Nat} {δ : Nat → Nat → Nat} (hδ : ∀ l x, x ∈ deck → δ l x ∈ deck) (hn : deck.Nodup) (h2 : 2 ≤ deck.length)
include hδ hn h2
theorem cerny : (∃ n, Syn deck δ n) ↔ ∀ a ∈ deck, ∀ b ∈ deck, ∃ w : List Nat, (∀ l ∈ w, l < 3) ∧ run δ w a = run δ w b := by
 constructor
 ·intro y0; obtain ⟨_, w, _, hl, q, _, he⟩ := y0; intro a ha b hb
  exact ⟨w, hl, by rw [he a ha, he b hb]⟩
 ·intro hm
  suffices h : ∀ (k : Nat) (w : List Nat), (∀ l ∈ w, l < 3) → (w.foldl (fun g l => img deck δ l g) deck).length ≤ k → ∃ n, Syn deck δ n from h _ [] (fun _ h => (nomatch h)) (Nat.le_refl _)
  intro k
  induction k with
  | zero =>
   intro w _ h
   refine el11 (List.exists_mem_of_length_pos (show 0 < deck.length by omega)) fun x hx => ?_
   have := (mem_imgs hδ (w := w)).mpr ⟨run_mem hδ hx, x, hx, rfl⟩
   rw [List.eq_nil_of_length_eq_zero (Nat.le_zero.mp h)] at this
   cases this
  | succ k ih =>
   intro w hl h
   have hnd : (w.foldl (fun g l => img deck δ l g) deck).Nodup := by
    rcases List.eq_nil_or_concat w with rfl | ⟨u, l, rfl⟩
    ·exact hn
    ·rw [List.concat_eq_append, List.foldl_append]; exact hn.filter _
   have hmem := fun y => mem_imgs hδ (w := w) (y := y)
   generalize hI : w.foldl (fun g l => img deck δ l g) deck = I at h hnd hmem
   match I, h, hnd, hmem with
   | [], _, _, hmem =>
    refine el11 (List.exists_mem_of_length_pos (show 0 < deck.length by omega)) fun x hx => ?_
    exact nomatch (hmem _).mpr ⟨run_mem hδ hx, x, hx, rfl⟩
   | [q], _, _, hmem =>
    exact ⟨_, w, rfl, hl, q, ((hmem q).mp (List.mem_singleton.mpr rfl)).1, fun x hx => List.mem_singleton.mp ((hmem _).mpr ⟨run_mem hδ hx, x, hx, rfl⟩)⟩
   | a :: b :: r, h, hnd, hmem =>
    have hab : a ≠ b := fun e => by rw [e] at hnd; exact (List.nodup_cons.mp hnd).1 (List.mem_cons_self ..)
    refine el12 (hm a ((hmem a).mp (by simp)).1 b ((hmem b).mp (by simp)).1) fun m hml hme => ?_
    refine ih (w ++ m) (fun l hl' => (List.mem_append.mp hl').elim (hl l) (hml l)) ?_
    have hle : ((w ++ m).foldl (fun g l => img deck δ l g) deck).length ≤ (((a :: b :: r).erase b).map (run δ m)).length := by
     refine nodup_le ?_ fun y hy => ?_
     ·rcases List.eq_nil_or_concat (w ++ m) with e | ⟨u, l, e⟩
      ·rw [e]; exact hn
      ·rw [e, List.concat_eq_append, List.foldl_append]; exact hn.filter _
     ·obtain ⟨_, x, hx, rfl⟩ := (mem_imgs hδ).mp hy
      rw [run_append]
      have hx' := (hmem (run δ w x)).mpr ⟨run_mem hδ hx, x, hx, rfl⟩
      by_cases e : run δ w x = b
      ·rw [e, ← hme]
       exact List.mem_map.mpr ⟨a, (List.mem_erase_of_ne hab).mpr (List.mem_cons_self ..), rfl⟩
      ·exact List.mem_map.mpr ⟨_, (List.mem_erase_of_ne e).mpr hx', rfl⟩
    rw [List.length_map, List.length_erase_of_mem (by simp)] at hle
    simp only [List.length_cons] at hle h
    omega
end
noncomputable def prs : List (Nat × Nat) := [(0, 1), (0, 2), (1, 2), (0, 3), (1, 3), (2, 3)]
noncomputable def brought (d : Nat → Nat → Nat) (met : List (Nat × Nat)) (p : Nat × Nat) : Bool := (List.range 3).any fun l => d l p.1 == d l p.2 || met.contains (min (d l p.1) (d l p.2), max (d l p.1) (d l p.2))
noncomputable def metF (d : Nat → Nat → Nat) : Nat → List (Nat × Nat)
 | 0 => []
 | k + 1 => prs.filter (brought d (metF d k))
section
variable {d : Nat → Nat → Nat} (hd : ∀ l i, i < 4 → d l i < 4)
theorem prs_mem {a b : Nat} (ha : a < 4) (hb : b < 4) (h : a ≠ b) : (min a b, max a b) ∈ prs := by
 have : ∀ a, a < 4 → ∀ b, b < 4 → a = b ∨ prs.contains (min a b, max a b) = true := by decide
 exact List.contains_iff_mem.mp ((this a ha b hb).resolve_left h)
theorem prs_lt {p : Nat × Nat} (h : p ∈ prs) : p.1 < p.2 ∧ p.2 < 4 := by
 have : ∀ p ∈ prs, p.1 < p.2 ∧ p.2 < 4 := by decide
 exact this p h
include hd
theorem met_iff {k : Nat} {p : Nat × Nat} (hp : p ∈ prs) : p ∈ metF d k ↔ ∃ w : List Nat, w.length ≤ k ∧ (∀ l ∈ w, l < 3) ∧ run d w p.1 = run d w p.2 := by
 induction k generalizing p with
 | zero =>
  have := prs_lt hp
  refine ⟨fun h => (nomatch h), fun ⟨w, hw, _, e⟩ => ?_⟩
  rw [List.length_eq_zero_iff.mp (Nat.le_zero.mp hw)] at e
  exact absurd (show p.1 = p.2 from e) (by omega)
 | succ k ih =>
  have hlt := prs_lt hp
  rw [metF, List.mem_filter, brought]
  constructor
  ·intro y0; refine el02 y0 fun _ h => ?_
   refine el12 (List.any_eq_true.mp h) fun l hl h => ?_
   have hl3 := List.mem_range.mp hl
   refine Or.elim (Bool.or_eq_true_iff.mp h) (fun e => ?_) (fun e => ?_)
   ·exact ⟨[l], by simp, fun k hk => by rw [List.mem_singleton.mp hk]; exact hl3, beq_iff_eq.mp e⟩
   ·have h1 := hd l p.1 (by omega)
    have h2 := hd l p.2 (by omega)
    have hm := List.contains_iff_mem.mp e
    by_cases hne : d l p.1 = d l p.2
    ·exact ⟨[l], by simp, fun k hk => by rw [List.mem_singleton.mp hk]; exact hl3, hne⟩
    refine el13 ((ih (prs_mem h1 h2 hne)).mp hm) fun w hw hwl he => ?_
    refine ⟨l :: w, by rw [List.length_cons]; omega, fun k hk => (List.mem_cons.mp hk).elim (fun e => e ▸ hl3) (hwl k), ?_⟩
    show run d w (d l p.1) = run d w (d l p.2)
    refine Or.elim (Nat.le_total (d l p.1) (d l p.2)) (fun z => ?_) (fun z => ?_)
    ·simpa only [Nat.min_eq_left z, Nat.max_eq_right z] using he
    ·simpa only [Nat.min_eq_right z, Nat.max_eq_left z] using he.symm
  ·intro y0; refine el13 y0 fun w hw hwl he => ?_
   refine ⟨hp, List.any_eq_true.mpr ?_⟩
   match w, hw, hwl, he with
   | [], _, _, he => exact absurd (show p.1 = p.2 from he) (by omega)
   | l :: w, hw, hwl, he =>
    have hl3 := hwl l (List.mem_cons_self ..)
    have h1 := hd l p.1 (by omega)
    have h2 := hd l p.2 (by omega)
    refine ⟨l, List.mem_range.mpr hl3, Bool.or_eq_true_iff.mpr ?_⟩
    by_cases hne : d l p.1 = d l p.2
    ·exact .inl (beq_iff_eq.mpr hne)
    ·refine .inr (List.contains_iff_mem.mpr ((ih (prs_mem h1 h2 hne)).mpr ⟨w, by rw [List.length_cons] at hw; omega, fun k hk => hwl k (List.mem_cons_of_mem _ hk), ?_⟩))
     have he' : run d w (d l p.1) = run d w (d l p.2) := he
     refine Or.elim (Nat.le_total (d l p.1) (d l p.2)) (fun z => ?_) (fun z => ?_)
     ·simpa only [Nat.min_eq_left z, Nat.max_eq_right z] using he'
     ·simpa only [Nat.min_eq_right z, Nat.max_eq_left z] using he'.symm
omit hd in
theorem filter_grow {f g : Nat × Nat → Bool} {l : List (Nat × Nat)} (h : ∀ x ∈ l, f x = true → g x = true) : (l.filter f).length ≤ (l.filter g).length ∧ ((l.filter f).length = (l.filter g).length → l.filter f = l.filter g) := by
 induction l with
 | nil => exact ⟨Nat.le_refl _, fun _ => rfl⟩
 | cons a l ih =>
  refine el02 (ih fun x hx => h x (List.mem_cons_of_mem _ hx)) fun h1 h2 => ?_
  have ha := h a (List.mem_cons_self ..)
  cases hf : f a <;> cases hg : g a <;> simp only [List.filter_cons, hf, hg, if_true, if_false, Bool.false_eq_true, List.length_cons]
  ·exact ⟨h1, h2⟩
  ·exact ⟨by omega, fun e => absurd e (by omega)⟩
  ·rw [ha hf] at hg; injection hg
  ·exact ⟨by omega, fun e => by rw [h2 (by omega)]⟩
theorem met_mono (k : Nat) : ∀ p ∈ metF d k, p ∈ metF d (k + 1) := fun p h => by
 have hp : p ∈ prs := by
  cases k with
  | zero => cases h
  | succ k => exact (List.mem_filter.mp h).1
 refine el12 ((met_iff hd hp).mp h) fun w hw r => ?_
 exact (met_iff hd hp).mpr ⟨w, by omega, r⟩
theorem met_step (k : Nat) : metF d (k + 1) = metF d k ∨ (metF d k).length < (metF d (k + 1)).length := by
 cases k with
 | zero =>
  cases h : metF d 1 with
  | nil => exact .inl rfl
  | cons a r => exact .inr (Nat.succ_pos _)
 | succ k =>
  have := filter_grow (l := prs) (f := brought d (metF d k)) (g := brought d (metF d (k + 1))) fun x hx h =>
   (List.mem_filter.mp (met_mono hd (k + 1) x (List.mem_filter.mpr ⟨hx, h⟩))).2
  refine Or.elim (Nat.lt_or_eq_of_le this.1) (fun z => ?_) (fun z => ?_)
  ·exact .inr z
  ·exact .inl (this.2 z).symm
theorem met_six (k : Nat) : ∀ p ∈ metF d k, p ∈ metF d 6 := by
 have le6 : ∀ k, (metF d k).length ≤ 6 := fun k => by
  cases k with
  | zero => exact Nat.zero_le _
  | succ k => exact List.length_filter_le _ prs
 have stop : ∀ k, metF d (k + 1) = metF d k → ∀ j, metF d (k + j) = metF d k := fun k e j => by
  induction j with
  | zero => rfl
  | succ j ih => rw [← e]; show prs.filter (brought d (metF d (k + j))) = prs.filter (brought d (metF d k)); rw [ih]
 have grow : ∀ k, metF d (k + 1) = metF d k ∨ k + 1 ≤ (metF d (k + 1)).length := fun k => by
  induction k with
  | zero => exact (met_step hd 0).imp id fun h => by omega
  | succ k ih =>
   refine Or.elim ih (fun e => ?_) (fun h => ?_)
   ·left; show prs.filter (brought d (metF d (k + 1))) = prs.filter (brought d (metF d k)); rw [e]
   ·exact (met_step hd (k + 1)).imp id fun z => by omega
 have e6 : metF d 7 = metF d 6 := (grow 6).elim id fun h => absurd (le6 7) (Nat.not_le.mpr h)
 have up : ∀ a b, a ≤ b → ∀ p ∈ metF d a, p ∈ metF d b := fun a b hab p h => by
  induction hab with
  | refl => exact h
  | step _ ih => exact met_mono hd _ p ih
 intro p hp
 refine Or.elim (Nat.le_total k 6) (fun z => ?_) (fun z => ?_)
 ·exact up k 6 z p hp
 ·refine el11 (⟨k - 6, by omega⟩ : ∃ j, k = 6 + j) fun j y0 => ?_; subst y0
  rw [stop 6 e6 j] at hp; exact hp
theorem meet_all : (metF d 6).length = 6 ↔ ∀ a, a < 4 → ∀ b, b < 4 → ∃ w : List Nat, (∀ l ∈ w, l < 3) ∧ run d w a = run d w b := by
 have e : (metF d 6).length = 6 ↔ ∀ p ∈ prs, p ∈ metF d 6 := by
  constructor
  ·intro h p hp
   have : prs.filter (brought d (metF d 5)) = prs := List.length_filter_eq_length_iff.mp h |> fun z => List.filter_eq_self.mpr z
   show p ∈ prs.filter (brought d (metF d 5))
   rw [this]; exact hp
  ·intro h
   have : prs.filter (brought d (metF d 5)) = prs := List.filter_eq_self.mpr fun p hp => (List.mem_filter.mp (h p hp)).2
   show (prs.filter (brought d (metF d 5))).length = 6
   rw [this]; rfl
 rw [e]
 constructor
 ·intro h a ha b hb
  by_cases hab : a = b
  ·exact ⟨[], fun _ h => (nomatch h), by rw [hab]⟩
  ·have hp := prs_mem ha hb hab
   refine el13 ((met_iff hd hp).mp (h _ hp)) fun w _ hl he => ?_
   refine ⟨w, hl, ?_⟩
   refine Or.elim (Nat.le_total a b) (fun z => ?_) (fun z => ?_)
   ·simpa only [Nat.min_eq_left z, Nat.max_eq_right z] using he
   ·simpa only [Nat.min_eq_right z, Nat.max_eq_left z] using he.symm
 ·intro h p hp
  have hlt := prs_lt hp
  refine el12 (h p.1 (by omega) p.2 (by omega)) fun w hl he => ?_
  exact met_six hd w.length p ((met_iff hd hp).mpr ⟨w, Nat.le_refl _, hl, he⟩)
end
section
variable (deck : List Nat) (δ : Nat → Nat → Nat)
noncomputable def Res : Option Nat → Prop
 | some k => Syn deck δ k ∧ ∀ m, m < k → ¬ Syn deck δ m
 | none => ∀ m, ¬ Syn deck δ m
variable {deck δ}
theorem res_one {a b : Option Nat} (ha : Res deck δ a) (hb : Res deck δ b) : a = b := by
 cases a with
 | none => cases b with
  | none => rfl
  | some k => exact absurd hb.1 (ha k)
 | some j => cases b with
  | none => exact absurd ha.1 (hb j)
  | some k =>
   rcases Nat.lt_trichotomy j k with h | h | h
   ·exact absurd ha.1 (hb.2 j h)
   ·rw [h]
   ·exact absurd hb.1 (ha.2 k h)
theorem res_some {a : Option Nat} (ha : Res deck δ a) : a ≠ none ↔ ∃ n, Syn deck δ n := by
 cases a with
 | none => exact ⟨fun h => absurd rfl h, fun ⟨n, h⟩ => absurd h (ha n)⟩
 | some k => exact ⟨fun _ => ⟨k, ha.1⟩, fun _ h => nomatch h⟩
variable (hδ : ∀ l x, x ∈ deck → δ l x ∈ deck) (hn : deck.Nodup) (h2 : 2 ≤ deck.length) {q : List (List Nat)} {f : List Nat → Option Nat} {g : List Nat} {t j : Nat}
noncomputable abbrev BfF (deck : List Nat) (δ : Nat → Nat → Nat) := Bf (forthW deck δ) (fun _ => true) (fun g => g.length == 1) (fun g => g == deck)
noncomputable abbrev BfB (deck : List Nat) (δ : Nat → Nat → Nat) := Bf (backW deck δ) (fun g => !g.isEmpty) (fun g => g == deck) (fun g => deck.any fun d => g == [d])
include hδ hn h2
theorem forth_found (h : BfF deck δ q f g t j) {a : List Nat} (ha : a ∈ forthW deck δ g) (ht : a.length = 1) {n : Nat} (hv : (f a = none ∧ n = t + 1) ∨ f a = some n) : Res deck δ (some n) := by
 have hs : ∀ x : List Nat, (x == deck) = true → (x.length == 1) = false := fun x hx => by
  rw [beq_iff_eq.mp hx]; exact beq_eq_false_iff_ne.mpr (by omega)
 refine el02 (h.found hs ha rfl (beq_iff_eq.mpr ht) hv) fun h1 h3 => ?_
 exact ⟨(forth_syn hδ hn h2).mp h1, fun m hm hsyn => by
  refine el12 ((forth_syn hδ hn h2).mpr hsyn) fun x hx hxt => ?_
  have := h3 m hm x hx
  rw [hxt] at this; injection this⟩
theorem forth_over (h : BfF deck δ [] f g t 3) : Res deck δ none := fun m hsyn => by
 have hs : ∀ x : List Nat, (x == deck) = true → (x.length == 1) = false := fun x hx => by
  rw [beq_iff_eq.mp hx]; exact beq_eq_false_iff_ne.mpr (by omega)
 refine el12 ((forth_syn hδ hn h2).mpr hsyn) fun x hx hxt => ?_
 have := h.over (Nat.le_of_eq rfl) hs m x hx
 rw [hxt] at this; injection this
omit hδ hn in
theorem src_back (x : List Nat) (hx : (deck.any fun d => x == [d]) = true) : (x == deck) = false := by
 refine el12 (List.any_eq_true.mp hx) fun d _ e => ?_
 rw [beq_iff_eq.mp e]
 refine beq_eq_false_iff_ne.mpr fun z => ?_
 rw [← z] at h2; simp at h2
theorem back_found (h : BfB deck δ q f g t j) (ha : deck ∈ backW deck δ g) {n : Nat} (hv : (f deck = none ∧ n = t + 1) ∨ f deck = some n) : Res deck δ (some n) := by
 have ho : (!deck.isEmpty) = true := by
  cases hd : deck with
  | nil => rw [hd] at h2; simp at h2
  | cons a r => rfl
 refine el02 (h.found (src_back h2) ha ho (beq_iff_eq.mpr rfl) hv) fun h1 h3 => ?_
 exact ⟨(back_syn hδ hn h2).mp h1, fun m hm hsyn => by
  refine el12 ((back_syn hδ hn h2).mpr hsyn) fun x hx hxt => ?_
  have := h3 m hm x hx
  rw [hxt] at this; injection this⟩
theorem back_over (h : BfB deck δ [] f g t 3) : Res deck δ none := fun m hsyn => by
 refine el12 ((back_syn hδ hn h2).mpr hsyn) fun x hx hxt => ?_
 have := h.over (Nat.le_of_eq rfl) (src_back h2) m x hx
 rw [hxt] at this; injection this
end
section
variable {deck : List Nat} {δ : Nat → Nat → Nat} (hδ : ∀ l x, x ∈ deck → δ l x ∈ deck) (hn : deck.Nodup) (h4 : deck.length = 4)
noncomputable def plc (deck : List Nat) (δ : Nat → Nat → Nat) (l i : Nat) : Nat := deck.idxOf (δ l (deck.getD i 0))
include h4
omit hn in
theorem deck_mem {i : Nat} (hi : i < 4) : deck.getD i 0 ∈ deck := by
 rw [List.getD_eq_getElem?_getD, List.getElem?_eq_getElem (by omega)]
 exact List.getElem_mem _
theorem idx_lt {x : Nat} (hx : x ∈ deck) : deck.idxOf x < 4 := h4 ▸ List.idxOf_lt_length_of_mem hx
theorem get_idx {x : Nat} (hx : x ∈ deck) : deck.getD (deck.idxOf x) 0 = x := by
 have h := List.idxOf_lt_length_of_mem hx
 rw [List.getD_eq_getElem?_getD, List.getElem?_eq_getElem h]
 exact List.getElem_idxOf h
include hδ
theorem plc_lt (l i : Nat) (hi : i < 4) : plc deck δ l i < 4 := idx_lt h4 (hδ l _ (deck_mem h4 hi))
theorem run_plc {w : List Nat} {i : Nat} (hi : i < 4) : deck.getD (run (plc deck δ) w i) 0 = run δ w (deck.getD i 0) ∧ run (plc deck δ) w i < 4 := by
 induction w generalizing i with
 | nil => exact ⟨rfl, hi⟩
 | cons l w ih =>
  have h := ih (plc_lt hδ h4 l i hi)
  refine ⟨h.1.trans ?_, h.2⟩
  show run δ w _ = run δ w (δ l (deck.getD i 0))
  rw [show deck.getD (plc deck δ l i) 0 = δ l (deck.getD i 0) from get_idx h4 (hδ l _ (deck_mem h4 hi))]
include hn
theorem getD_inj {i j : Nat} (hi : i < 4) (hj : j < 4) (h : deck.getD i 0 = deck.getD j 0) : i = j := by
 rw [List.getD_eq_getElem?_getD, List.getD_eq_getElem?_getD, List.getElem?_eq_getElem (show i < deck.length by omega), List.getElem?_eq_getElem (show j < deck.length by omega)] at h
 exact (List.getElem_inj hn).mp h
theorem meet_syn : (metF (plc deck δ) 6).length = 6 ↔ ∃ n, Syn deck δ n := by
 rw [meet_all (plc_lt hδ h4), cerny hδ hn (by omega)]
 constructor
 ·intro h a ha b hb
  refine el12 (h _ (idx_lt h4 ha) _ (idx_lt h4 hb)) fun w hl he => ?_
  refine ⟨w, hl, ?_⟩
  have h1 := (run_plc hδ h4 (w := w) (idx_lt h4 ha)).1
  have h2 := (run_plc hδ h4 (w := w) (idx_lt h4 hb)).1
  rw [get_idx h4 ha] at h1
  rw [get_idx h4 hb] at h2
  rw [← h1, ← h2, he]
 ·intro h a ha b hb
  refine el12 (h _ (deck_mem h4 ha) _ (deck_mem h4 hb)) fun w hl he => ?_
  refine el02 (run_plc hδ h4 (w := w) ha) fun h1 h1' => ?_
  refine el02 (run_plc hδ h4 (w := w) hb) fun h2 h2' => ?_
  exact ⟨w, hl, getD_inj hδ hn h4 h1' h2' (by rw [h1, h2, he])⟩
end
noncomputable def pairD (p : Nat × Nat) : D := .list [.int (p.1 : Nat), .int (p.2 : Nat)]
noncomputable def rowD (d : Nat → Nat → Nat) (i : Nat) : List D := (List.range 3).map fun l => D.int (d l i : Nat)
noncomputable def placesD (d : Nat → Nat → Nat) : D := .list ((List.range 4).map fun i => D.list (rowD d i))
theorem pairs_ok (met : List (Nat × Nat)) : pysOk (met.map pairD) = true ∧ PyData.canLayAll0 (pys (met.map pairD)) = true := by
 induction met with
 | nil => exact ⟨rfl, rfl⟩
 | cons p met ih => exact ⟨ih.1, ih.2⟩
theorem pairs_in (a b : Nat) (met : List (Nat × Nat)) : ((pys (met.map pairD)).any fun y => PyData.eqv y (py (pairD (a, b)))) = met.contains (a, b) := by
 induction met with
 | nil => rfl
 | cons p met ih =>
  rw [List.map_cons, List.contains_cons, ← ih]
  show (PyData.eqv _ _ || _) = _
  congr 1
  rw [Bool.eq_iff_iff, beq_iff_eq, Prod.mk.injEq]
  show ((((p.1 : Nat) : Int) == (a : Int)) && ((((p.2 : Nat) : Int) == (b : Int)) && true)) = true ↔ _
  rw [Bool.and_true, Bool.and_eq_true, int_beq, int_beq, beq_iff_eq, beq_iff_eq]
  exact ⟨fun h => ⟨h.1.symm, h.2.symm⟩, fun h => ⟨h.1.symm, h.2.symm⟩⟩
section
variable {P : Params} {G : Gd} (hK : G.K = K02 P)
include hK
set_option maxHeartbeats 2000000
theorem brought_is (d : Nat → Nat → Nat) (met : List (Nat × Nat)) (p : Nat × Nat) (h1 : p.1 < 4) (h2 : p.2 < 4) : FnIs G 60 (.ref 268) [pairD p, placesD d, .list (met.map pairD)] (.bool (brought d met p)) := by
 refine fn_K hK [("pair", pairD p), ("places", placesD d), ("met", .list (met.map pairD))] rfl rfl rfl ?_ rfl rfl rfl rfl rfl rfl rfl rfl ?_
 ·intro vs hv; refine el31 (len3 hv) fun a b c y0 => ?_; subst y0; kernel_rfl
 intro X L
 have rows : ∀ k, k < 4 → ((List.range 4).map fun i => D.list (rowD d i))[((k : Nat) : Int).toNat]? = some (.list (rowD d k)) := fun k hk => by
  rw [Int.toNat_natCast, List.getElem?_map, List.getElem?_range hk]; rfl
 let ok (l : Nat) : Bool := d l p.1 == d l p.2 || met.contains (min (d l p.1) (d l p.2), max (d l p.1) (d l p.2))
 have hbr : brought d met p = (List.range 3).any ok := rfl
 have hzl : (zipped (rowD d p.1) (rowD d p.2)).length = 3 := by rw [zipped_length, rowD, rowD, List.length_map, List.length_map, List.length_range]; rfl
 refine ex_forP (ds := zipped (rowD d p.1) (rowD d p.2)) D.fst D.snd (by kernel_rfl) (by kernel_rfl) (src_mk rfl rfl ?_ (evAll_cons rfl (ev_item rfl ?_ (ev_item rfl ?_ ev_int (item_list (ds := [.int (p.1 : Nat), .int (p.2 : Nat)]) (by decide) rfl (by decide))) (item_list (ds := (List.range 4).map fun i => D.list (rowD d i)) (by omega) (rows _ h1) (by omega))) (evAll_cons rfl (ev_item rfl ?_ (ev_item rfl ?_ ev_int (item_list (ds := [.int (p.1 : Nat), .int (p.2 : Nat)]) (by decide) rfl (by decide))) (item_list (ds := (List.range 4).map fun i => D.list (rowD d i)) (by omega) (rows _ h2) (by omega))) evAll_nil)) (mk_zip side_list side_list))
  (fun i => guardL ((List.range i).any ok = false) [("met", .list (met.map pairD))]) (fun _ => []) ?_ OSub.nil (fun _ => rfl) (fun d hd => ?_) (fun i x hx Y => ?_) ?_
 ·ac_rfl
 ·exact ev_name (lk_next (by kernel_rfl) lk_here) (by kernel_rfl) (by kernel_rfl)
 ·exact ev_name lk_here (by kernel_rfl) (by kernel_rfl)
 ·exact ev_name (lk_next (by kernel_rfl) lk_here) (by kernel_rfl) (by kernel_rfl)
 ·exact ev_name lk_here (by kernel_rfl) (by kernel_rfl)
 ·refine sub_guard rfl ?_
  walk_at "subs"
 ·obtain ⟨u, _, v, _, rfl⟩ := mem_zipped hd; exact unp_tup
 ·have hi : i < 3 := by rw [← hzl]; exact (List.getElem?_eq_some_iff.mp hx).1
  refine el23 (zipped_get hx) fun u v hu hv y0 => ?_; subst y0
  rw [rowD, List.getElem?_map, List.getElem?_range hi] at hu hv
  (injection hu with y0; subst y0); (injection hv with y0; subst y0)
  refine ex_guard2 (by kernel_rfl) (by kernel_rfl) fun hg => ?_
  show Ex G 59 _ [("right", .int (d i p.2 : Nat)), ("left", .int (d i p.1 : Nat)), ("met", .list (met.map pairD))] _ _ _
  generalize hL : d i p.1 = l at *
  generalize hR : d i p.2 = r at *
  have hok : ok i = (l == r || met.contains (min l r, max l r)) := by show (d i p.1 == d i p.2 || _) = _; rw [hL, hR]
  refine ex_if (c := ok i) (tstE (tst_or (tstE (tst_cmp (n := 51) (d₁ := .int (l : Nat)) (d₂ := .int (r : Nat)) rfl ?_ ?_ cmp_eq_int) (int_beq l r)) fun _ => tst_or (tst_cmp (n := 51) rfl (ev_callB (id := "sorted") (ds := [.list (dints [(l : Int), (r : Int)])]) ?_ (evAll_cons rfl (ev_list ?_ (show 2 ≤ sizeLine by decide)) evAll_nil) rfl (fn_sorted (ms := [((min l r : Nat) : Int), ((max l r : Nat) : Int)]) (show 2 < 64 by decide) ?_ ?_) rfl) ?_ (cmp_in_data (d := pairD (min l r, max l r)) (ds := met.map pairD) (b := met.contains (min l r, max l r)) (pairs_ok met).1 rfl (pairs_ok met).2 rfl (lenk (by kernel_rfl)) (pairs_in ..))) fun _ => tst_or_nil) ?_) (fun h => ?_) fun h => ?_
  iterate 3 (·ac_rfl)
  ·show EvAll _ _ _ _ _ _ [D.int (l : Nat), D.int (r : Nat)]
   ac_rfl
  ·refine Or.elim (Nat.le_total l r) (fun z => ?_) (fun z => ?_)
   ·rw [Nat.min_eq_left z, Nat.max_eq_right z]
   ·rw [Nat.min_eq_right z, Nat.max_eq_left z]; exact .swap _ _ _
  ·exact List.pairwise_pair.mpr (Int.ofNat_le.mpr (by omega))
  ·ac_rfl
  ·rw [hok, Bool.or_false]
  ·refine ex_ret (d := .bool true) ev_bool ?_
   show D.bool true = D.bool (brought d met p)
   rw [hbr, List.any_eq_true.mpr ⟨i, List.mem_range.mpr hi, h⟩]
  ·refine ex_nil (ex_nil (ex_turn_end (sub_guard ?_ ?_) OSub.nil))
   ·rw [List.range_succ, List.any_append, hg, Bool.false_or]
    show (ok i || false) = false
    rw [h]; rfl
   ·walk_at "subs"
 ·refine ex_guard0 fun hg => ?_
  rw [hzl] at hg
  exact ex_ret (d := .bool false) ev_bool (show D.bool false = D.bool _ by rw [hbr, hg])
theorem meet_is (d : Nat → Nat → Nat) : FnIs G 80 (.ref 273) [placesD d] (.bool (decide ((metF d 6).length = 6))) := by
 refine fn_K hK [("places", placesD d)] rfl rfl rfl ?_ rfl rfl rfl rfl rfl rfl rfl rfl ?_
 ·intro vs hv; refine el11 (len1 hv) fun a y0 => ?_; subst y0; kernel_rfl
 intro X L
 have hml : ∀ k, (metF d k).length ≤ 6 := fun k => by
  cases k with
  | zero => exact Nat.zero_le _
  | succ k => exact List.length_filter_le _ prs
 refine ex_pair (d := .tup [.list (prs.map pairD), .list []]) (by kernel_rfl) (by kernel_rfl) rfl rfl (ev_tup (evAll_cons rfl (ev_comp (ds := zs 0 4) (ρc := []) (out := prs.map pairD) (src_of (ev_callT (d := .rng 0 4) ?_ ?_ rfl fn_range1 rfl) (iter_rng rfl)) (fun _ => rfl) rfl (scopeOk_kind rfl) (scopeOk_names rfl) (scopeOk_cell rfl) (FSub.nil _) (fun C da => ?_) (by decide)) (evAll_cons rfl (ev_list evAll_nil (by decide)) evAll_nil)) (by decide)) unp_tup ?_
 iterate 2 (·ac_rfl)
 ·have e : prs.map pairD = (zs 0 4).flatMap fun o => (zs 0 (o.i.toNat)).map fun b => D.list [b, o] := rfl
  rw [e]
  refine loops_two (fun o => zs 0 o.i.toNat) (fun o b => D.list [b, o]) rfl rfl rfl rfl rfl (fun _ => rfl) (fun o ho done => ?_) fun o ho b hb done => ?_
  ·refine el12 (List.mem_map.mp ho) fun k hk y0 => ?_; subst y0
   have hk4 := List.mem_range.mp hk
   refine src_of (d := .rng 0 (0 + (k : Int))) (ev_callT ?_ ?_ rfl fn_range1 rfl) ?_
   iterate 2 (·ac_rfl)
   ·rcases k with _ | _ | _ | _ | k
    ·exact iter_rng rfl
    ·exact iter_rng rfl
    ·exact iter_rng rfl
    ·exact iter_rng rfl
    ·omega
  ·exact ev_list (evAll_cons rfl (ev_name lk_here (by kernel_rfl) (by kernel_rfl)) (evAll_cons rfl (ev_name (lk_next (by kernel_rfl) lk_here) (by kernel_rfl) (by kernel_rfl)) evAll_nil)) (show 2 ≤ sizeLine by decide)
 refine ex_forN (ds := zs 0 6) (by kernel_rfl) (src_of (ev_callT (d := .rng 0 6) ?_ ?_ rfl fn_range1 rfl) (iter_rng rfl)) (fun i => [("met", .list ((metF d i).map pairD)), ("pairs", .list (prs.map pairD)), ("places", placesD d)]) (fun _ => []) ?_ OSub.nil (fun _ => rfl) (fun i x hx Y => ?_) ?_
 iterate 2 (·ac_rfl)
 ·walk_at "subs"
  all_goals rfl
 ·refine ex_assign (d := .list ((metF d (i + 1)).map pairD)) (by kernel_rfl) rfl (ev_comp (ds := prs.map pairD) (ρc := [("places", placesD d), ("met", .list ((metF d i).map pairD))]) (out := (metF d (i + 1)).map pairD) (src_of ?_ iter_list) (fun _ => rfl) rfl (scopeOk_kind rfl) (scopeOk_names rfl) (scopeOk_cell rfl) ?_ (fun C da => ?_) (small (by rw [List.length_map]; exact Nat.le_trans (hml _) (by decide)))) (ex_nil (ex_turn_end ?_ OSub.nil))
  ·ac_rfl
  ·walk_at "fsubs"
  ·let pq (x : D) : Nat × Nat := (x.fst.i.toNat, x.snd.i.toNat)
   have e : ∀ l : List (Nat × Nat), (l.map pairD).flatMap (fun x => if brought d (metF d i) (pq x) = true then [x] else []) = (l.filter (brought d (metF d i))).map pairD := fun l => by
    induction l with
    | nil => rfl
    | cons q l ih =>
     rw [List.map_cons, List.flatMap_cons, ih, List.filter_cons]
     show (if brought d (metF d i) q = true then _ else _) ++ _ = _
     split <;> rfl
   rw [show metF d (i + 1) = prs.filter (brought d (metF d i)) from rfl, ← e]
   refine loops_filter (fun x => brought d (metF d i) (pq x)) id rfl rfl (fun x hx done => ?_) fun x hx _ done => ev_name lk_here (by kernel_rfl) (by kernel_rfl)
   refine el12 (List.mem_map.mp hx) fun q hq y0 => ?_; subst y0
   have hlt := prs_lt hq
   refine tst_plain (d := .bool (brought d (metF d i) q)) rfl (ev_call (f := 268) (ds := [pairD q, placesD d, .list ((metF d i).map pairD)]) ?_ (by rw [hK]; kernel_rfl) ?_ rfl ((brought_is hK d (metF d i) q (by omega) hlt.2).le (by decide)) rfl) truth_bool
   iterate 2 (·ac_rfl)
  ·walk_at "subs"
 ·refine ex_ret (d := .bool (decide ((metF d 6).length = 6))) (ev_eq (ev_cmp (n := 71) rfl (ev_callB (ds := [.list ((metF d 6).map pairD)]) ?_ ?_ rfl (fn_len_list (by rw [List.length_map]; have := hml 6; omega)) rfl) ev_int cmp_eq_int) ?_) rfl
  ·ac_rfl
  ·show EvAll _ _ _ [("met", .list ((metF d 6).map pairD)), ("pairs", .list (prs.map pairD)), ("places", placesD d)] _ _ _
   ac_rfl
  ·rw [List.length_map]; exact congrArg D.bool (int_beq _ 6)
end
noncomputable def WS : List Nat := S "\n\t\r "
noncomputable abbrev lexNs (C : Addr) (line : Int) (din : D) (pb : Addr) : Loc := [("lineno", .int line), ("instream", din), ("whitespace", .str WS), ("pushback", own pb)]
section
variable {P : Params} {G : Gd} (hK : G.K = K02 P)
include hK
set_option maxHeartbeats 2000000
theorem init_is (dx : Addr) (din : D) : FnG G 20 (.ref 52) [.inst 76 dx, din] [(dx, .ns [])] (fun d c' => d = .none ∧ ∃ pb, c' = [(pb, .list []), (dx, .ns (lexNs 76 1 din pb))]) := by
 refine fnG_K hK [("self", .inst 76 dx), ("fp", din)] [(dx, .ns [])] (R' := fun _ d _ c' => d = .none ∧ ∃ pb, c' = [(pb, .list []), (dx, .ns (lexNs 76 1 din pb))]) rfl rfl rfl ?_ rfl rfl rfl rfl rfl rfl rfl rfl ?_ ?_
 ·intro vs hv; refine el21 (len2 hv) fun a b y0 => ?_; subst y0; kernel_rfl
 ·intro G' hK' _ X L
  refine ex_setattr (C := 76) (dx := dx) (d := .int 1) rfl ?_ ?_ (OSet.head _) (by rw [hK']; kernel_rfl) (by rw [hK']; kernel_rfl) (Nat.le_of_ble_eq_true (by kernel_rfl)) ?_
  iterate 2 (·ac_rfl)
  refine ex_setattr (C := 76) (dx := dx) (d := din) rfl ?_ ?_ (OSet.head _) (by rw [hK']; kernel_rfl) (by rw [hK']; kernel_rfl) (Nat.le_of_ble_eq_true (by kernel_rfl)) ?_
  iterate 2 (·ac_rfl)
  refine ex_setattr (C := 76) (dx := dx) (d := .str WS) rfl (ev_litE rfl) ?_ (OSet.head _) (by rw [hK']; kernel_rfl) (by rw [hK']; kernel_rfl) (Nat.le_of_ble_eq_true (by kernel_rfl)) ?_
  ·ac_rfl
  refine ex_setattr_list (C := 76) (dx := dx) rfl (fun a => ?_) (fun a => (OSet.head _).tail _) (by rw [hK']; kernel_rfl) (by rw [hK']; kernel_rfl) (Nat.le_of_ble_eq_true (by kernel_rfl)) fun a ha => ?_
  ·ac_rfl
  exact ex_nil (ex_end ⟨rfl, a, rfl⟩)
 ·exact no_cells
end
noncomputable def lexBody (P : Params) : List Stmt := match (fnAt (K02 P) 206).body with | .stmts b => b | _ => []
noncomputable def noArgs : Arguments := ⟨[], [], none, [], [], none, []⟩
noncomputable def pieceParams (P : Params) : Arguments := match lexBody P with | _ :: _ :: .FunctionDef _ a _ _ _ _ _ _ _ _ :: _ => a | _ => noArgs
noncomputable def pieceBody (P : Params) : List Stmt := match lexBody P with | _ :: _ :: .FunctionDef _ _ b _ _ _ _ _ _ _ :: _ => b | _ => []
noncomputable def pieceScope (P : Params) : Scope := match lexBody P with | _ :: _ :: .FunctionDef _ _ _ _ _ _ s _ _ _ :: _ => s | _ => (fnAt (K02 P) 206).scope
noncomputable abbrev pieceQual : Str := "_law_lexer.<locals>._law_piece"
noncomputable abbrev pieceFn (P : Params) (ct cg : Addr) : FuncData → Prop := FnTold pieceQual (pieceParams P) (.stmts (pieceBody P)) (pieceScope P) [("text", ct), ("gone", cg)]
noncomputable abbrev pieceD (P : Params) (ct cg : Addr) : D := .fn (pieceFn P ct cg) pieceQual
noncomputable abbrev pieceCl (ct cg g : Addr) (text : List Nat) : List (Str × Addr × D) := [("text", ct, .str text), ("gone", cg, own g)]
noncomputable abbrev pieceOwn (ct cg g : Addr) (text : List Nat) (p : Nat) : Own := [(ct, .cell (.str text)), (cg, .cell (own g)), (g, .list (signs (text.take p)))]
theorem cut_next (w : List Nat) (p : Nat) (h : p ≤ w.length) : cut w (some (p : Int)) (some ((p : Int) + 1)) = (w.drop p).take 1 := cut_one w p h
section
variable {P : Params} {G : Gd} (hK : G.K = K02 P)
include hK
set_option maxHeartbeats 2000000
theorem make_is (din : D) : FnG G 21 (.ref 76) [din] [] (fun d c' => ∃ dx pb, d = .inst 76 dx ∧ c' = [(pb, .list []), (dx, .ns (lexNs 76 1 din pb))]) :=
 fnG_make (fI := 52) (by rw [hK]; kernel_rfl) (by rw [hK]; kernel_rfl) (by rw [hK]; kernel_rfl) (fun dx => init_is hK dx din) fun dx c' h => let ⟨pb, e⟩ := h; ⟨dx, pb, rfl, e⟩
theorem piece_is (ct cg g : Addr) (text : List Nat) (p : Nat) (hp : p ≤ text.length) (hl : text.length ≤ 1000) : FnGd G 20 (pieceD P ct cg) [.int 1] (pieceOwn ct cg g text p) (fun d c' => d = .str ((text.drop p).take 1) ∧ c' = pieceOwn ct cg g text (p + 1)) := by
 refine fnG_clos (cl := pieceCl ct cg g text) (ns := ["count"]) (c := [(g, .list (signs (text.take p)))]) (R' := fun d ρ' ow' => d = .str ((text.drop p).take 1) ∧ (∀ q ∈ pieceCl ct cg g text, ρ'.lookup q.1 = some q.2.2) ∧ ow' = [(g, .list (signs (text.take (p + 1))))]) ?_ (nodup_of rfl) rfl ?_ ?_ ?_ ?_ (by kernel_rfl) (by kernel_rfl) (by kernel_rfl) ?_ ?_
 ·intro fd vs hT hv
  refine el11 (len1 hv) fun a y0 => ?_; subst y0
  obtain ⟨t1, t2, t3, t4, t5, t6, t7, t8, t9⟩ := hT
  obtain ⟨name, q, pa, bo, sc, gl, cl, de, kd, dc, pm, an, cd, ct, bl⟩ := fd
  simp only at t1 t2 t3 t4 t5 t6 t7 t8 t9
  subst t1 t2 t3 t4 t5 t6 t7 t8 t9
  kernel_rfl
 ·intro x hx; rw [List.mem_singleton.mp hx]; kernel_rfl
 ·intro q hq
  simp only [List.mem_cons, List.not_mem_nil, or_false] at hq
  focus (refine Or.elim hq (fun y0 => ?_) (fun y0 => ?_); subst y0; rotate_left; subst y0; rotate_left) <;> kernel_rfl
 ·intro x hx; have : (pieceScope P).names.all (fun y => y.2 != .cell) = true := by kernel_rfl
  have := List.all_eq_true.mp this x hx
  simpa using this
 ·exact nodup_of rfl
 ·intro G' hK' _ X L a cd
  have hK2 : G'.K = K02 P := hK'.trans hK
  have hg : (signs (text.take p)).length = p := by simp [signs]; omega
  have htk : text.take (p + 1) = text.take p ++ (text.drop p).take 1 := by rw [List.take_add]
  show Ex G' 19 _ [("count", .int 1), ("text", .str text), ("gone", own g)] _ _ _
  refine ex_assign (d := .str ((text.drop p).take 1)) (by kernel_rfl) rfl (ev_eq (ev_cut_str (i := some (p : Int)) (j := some ((p : Int) + 1)) (l := text) ?_ (evp_some ?_) (evp_some (ev_binop ?_ ?_ bin_add)) (small (by omega))) (congrArg D.str (cut_next text p hp))) ?_
  ·ac_rfl
  ·refine ev_freeze "gone" (a := g) (ds := signs (text.take p)) (by walk_at "lk") (List.mem_cons_self ..) OSub.nil (by simp) (fun _ => .nil) rfl (ev_eq (d' := .int (signs (text.take p)).length) (ev_callB (ds := [.list (signs (text.take p))]) ?_ ?_ rfl (fn_len_list (by omega)) rfl) (by rw [hg]))
   iterate 2 (·ac_rfl)
  ·refine ev_freeze "gone" (a := g) (ds := signs (text.take p)) (by walk_at "lk") (List.mem_cons_self ..) OSub.nil (by simp) (fun _ => .nil) rfl (ev_eq (d' := .int (signs (text.take p)).length) (ev_callB (ds := [.list (signs (text.take p))]) ?_ ?_ rfl (fn_len_list (by omega)) rfl) (by rw [hg]))
   iterate 2 (·ac_rfl)
  ·ac_rfl
  refine ex_extend_str (a := g) (ds := signs (text.take p)) (l := (text.drop p).take 1) ?_ (OSet.head _) ?_ rfl (by rw [hg]; simp; omega) rfl rfl rfl ?_
  iterate 2 (·ac_rfl)
  refine ex_ret (d := .str ((text.drop p).take 1)) ?_ ⟨rfl, fun q hq => ?_, ?_⟩
  ·ac_rfl
  ·simp only [List.mem_cons, List.not_mem_nil, or_false] at hq
   focus (refine Or.elim hq (fun y0 => ?_) (fun y0 => ?_); subst y0; rotate_left; subst y0; rotate_left)
   ·walk_at "lk"
   ·walk_at "lk"
  ·rw [htk]; simp [signs]
 ·intro d ρ' ow' h
  refine el03 h fun y0 => ?_; subst y0; intro h1 y0; subst y0
  exact ⟨h1, rfl, rfl⟩
end
structure Lx where
 (dl pb ds spb ct cg g : Addr)
noncomputable def lineF (text : List Nat) (p : Nat) : Int := 1 + ((text.take p).count 10 : Nat)
noncomputable abbrev streamNs (P : Params) (x : Lx) : Loc := [("lineno", .int 1), ("instream", .none), ("whitespace", .str WS), ("pushback", own x.spb), ("read", pieceD P x.ct x.cg)]
noncomputable abbrev lexRest (P : Params) (x : Lx) (line : Int) (push : List (List Nat)) : Own := [(x.dl, .ns (lexNs 76 line (.inst 76 x.ds) x.pb)), (x.pb, .list (dstrs push)), (x.ds, .ns (streamNs P x))]
noncomputable abbrev lexOwn (P : Params) (x : Lx) (text : List Nat) (p : Nat) (push : List (List Nat)) : Own := pieceOwn x.ct x.cg x.g text p ++ lexRest P x (lineF text p) push
noncomputable def pitL : OO := .pit fun l c => if l = 301 ∧ c = 4 then some pieceQual else none
section
variable {P : Params} {G : Gd} (hK : G.K = K02 P)
include hK
set_option maxHeartbeats 4000000
theorem lexer_is (text : List Nat) : FnG G 30 (.ref 206) [.str text] [(201, pitL)] (fun d c' => ∃ x : Lx, d = .inst 76 x.dl ∧ c' = lexOwn P x text 0 [] ++ [(x.spb, .list []), (201, pitL)]) := by
 refine fnG_K hK [("text", .str text)] [(201, pitL)] (R' := fun L d ρ w => ∃ x : Lx, (x.ct = L + 1 ∧ x.cg = L + 2) ∧ d = .inst 76 x.dl ∧ ρ.lookup ("text" : Str) = some (.str text) ∧ ρ.lookup ("gone" : Str) = some (own x.g) ∧ w = (x.g, .list []) :: (lexRest P x 1 [] ++ [(x.spb, .list []), (201, pitL)])) rfl rfl rfl ?_ rfl rfl rfl rfl rfl rfl rfl rfl ?_ ?_
 ·intro vs hv; refine el11 (len1 hv) fun a y0 => ?_; subst y0; kernel_rfl
 ·intro G' hK' _ X L
  refine ex_assignG (by kernel_rfl) rfl (evG_call (c := []) (r := [(201, pitL)]) (f := 76) (ds := [.none]) ?_ (by rw [hK']; kernel_rfl) ?_ rfl ((make_is hK' .none).le (by decide)) rfl) ?_
  iterate 2 (·ac_rfl)
  intro d w y0; refine el12 y0 fun c' y0 => ?_; refine el22 y0 fun ds spb y0 => ?_; subst y0; intro y0; subst y0; intro y0; subst y0; intro hfresh
  refine ex_newlist (by kernel_rfl) rfl fun g hg => ?_
  refine ex_def (f := fun l c => if l = 301 ∧ c = 4 then some pieceQual else none) (c := 205) (P := 201) (qual := pieceQual) (by kernel_rfl) rfl rfl rfl (by kernel_rfl) (by rw [hK']; kernel_rfl) ?_ rfl (by kernel_rfl) (by kernel_rfl) ?_
  ·simp [pitL]
  refine ex_setattr (C := 76) (dx := ds) (d := pieceD P (L + 1) (L + 2)) (fs := lexNs 76 1 .none spb) (ow' := [(g, .list []), (spb, .list []), (ds, .ns (putF "read" (pieceD P (L + 1) (L + 2)) (lexNs 76 1 .none spb))), (201, pitL)]) (by kernel_rfl) ?_ ?_ ?_ (by rw [hK']; kernel_rfl) (by rw [hK']; kernel_rfl) (Nat.le_of_ble_eq_true (by kernel_rfl)) ?_
  ·exact ev_name (by kernel_rfl) (by kernel_rfl) (by kernel_rfl)
  ·ac_rfl
  ·exact ((OSet.head _).tail _).tail _
  refine ex_retG (((evG_call (c := []) (r := [(g, .list []), (spb, .list []), (ds, .ns (putF "read" (pieceD P (L + 1) (L + 2)) (lexNs 76 1 .none spb))), (201, pitL)]) (f := 76) (ds := [.inst 76 ds]) ?_ (by rw [hK']; kernel_rfl) ?_ rfl ((make_is hK' (.inst 76 ds)).le (by decide)) rfl).weaken (R' := fun d w => ∃ dl pb, d = .inst 76 dl ∧ w = [(pb, .list []), (dl, .ns (lexNs 76 1 (.inst 76 ds) pb)), (g, .list []), (spb, .list []), (ds, .ns (streamNs P ⟨dl, pb, ds, spb, L + 1, L + 2, g⟩)), (201, pitL)]) ?_).own (R' := fun d w => ∃ x : Lx, (x.ct = L + 1 ∧ x.cg = L + 2 ∧ x.g = g) ∧ d = .inst 76 x.dl ∧ w = (x.g, .list []) :: (lexRest P x 1 [] ++ [(x.spb, .list []), (201, pitL)])) ?_) ?_
  iterate 2 (·ac_rfl)
  ·intro d w y0; refine el12 y0 fun c' y0 => ?_; refine el22 y0 fun dl pb y0 => ?_; subst y0; intro y0; subst y0; intro y0; subst y0
   exact ⟨dl, pb, rfl, rfl⟩
  ·intro d w y0; refine el22 y0 fun dl pb y0 => ?_; subst y0; intro y0; subst y0
   refine ⟨_, ⟨⟨dl, pb, ds, spb, L + 1, L + 2, g⟩, ⟨rfl, rfl, rfl⟩, rfl, rfl⟩, ?_, ?_⟩
   ·intro p hp
    simp only [List.mem_cons, List.cons_append, List.nil_append, List.not_mem_nil, or_false] at hp ⊢
    rcases hp with h | h | h | h | h | h <;> simp [h, dstrs]
   ·simp only [keysOf, List.map_cons, List.map_nil, List.cons_append, List.nil_append, List.nodup_cons, List.mem_cons, List.not_mem_nil, or_false, not_or]
    grind
  ·intro d w y0; refine el13 y0 fun x y0 => ?_; refine el03 y0 fun h1 h2 h3 => ?_; intro y0; subst y0; intro y0; subst y0
   exact ⟨x, ⟨h1, h2⟩, rfl, by walk_at "lk", by rw [h3]; walk_at "lk", rfl⟩
 ·intro L d ρ' w y0; refine el15 y0 fun x y0 => ?_; refine el02 y0 fun h1 h2 => ?_; intro y0; subst y0; intro h3 h4 y0; subst y0
  refine ⟨[("text", .str text), ("gone", own x.g)], ?_, nodup_of rfl, x, rfl, ?_⟩
  ·intro p hp
   simp only [List.mem_cons, List.not_mem_nil, or_false] at hp
   focus (refine Or.elim hp (fun y0 => ?_) (fun y0 => ?_); subst y0; rotate_left; subst y0; rotate_left)
   ·exact ⟨h3, by kernel_rfl⟩
   ·exact ⟨h4, by kernel_rfl⟩
  ·obtain ⟨dl, pb, ds, spb, ct, cg, g⟩ := x
   simp only at h1 h2
   subst h1 h2
   rfl
end
section
variable {P : Params} {G : Gd} (hK : G.K = K02 P)
include hK
set_option maxHeartbeats 4000000
theorem piece_any (ct cg g : Addr) (text : List Nat) (p : Nat) (hl : text.length ≤ 1000) : FnGd G 20 (pieceD P ct cg) [.int 1] (pieceOwn ct cg g text p) (fun d c' => d = .str ((text.drop p).take 1) ∧ c' = pieceOwn ct cg g text (p + 1)) := by
 by_cases hp : p ≤ text.length
 ·exact piece_is hK ct cg g text p hp hl
 ·have h1 : text.take p = text.take text.length := by rw [List.take_of_length_le (by omega), List.take_of_length_le (by omega)]
  have h2 : text.take (p + 1) = text.take (text.length + 1) := by rw [List.take_of_length_le (by omega), List.take_of_length_le (by omega)]
  have h3 : text.drop p = text.drop text.length := by rw [List.drop_of_length_le (by omega), List.drop_of_length_le (by omega)]
  unfold pieceOwn
  rw [h1, h2, h3]
  exact piece_is hK ct cg g text text.length (Nat.le_refl _) hl
omit hK in
theorem lineF_next (text : List Nat) (p : Nat) : lineF text (p + 1) = lineF text p + (if (text.drop p).take 1 == [10] then 1 else 0) := by
 unfold lineF
 rw [List.take_add, List.count_append]
 cases h : text.drop p with
 | nil => simp
 | cons c r =>
  by_cases hc : c = 10
  ·subst hc; simp; omega
  ·simp [hc]
theorem read_is (x : Lx) (text : List Nat) (p : Nat) (push : List (List Nat)) (hl : text.length ≤ 1000) : FnG G 29 (.ref 59) [.inst 76 x.dl] (lexOwn P x text p push) (fun d c' => d = .str ((text.drop p).take 1) ∧ c' = lexOwn P x text (p + 1) push) := by
 refine ((fnG_K (n := 20) hK [("self", .inst 76 x.dl)] (lexOwn P x text p push) (R := fun d c' => d = .str ((text.drop p).take 1) ∧ c' = lexOwn P x text (p + 1) push) (R' := fun _ d _ c' => d = .str ((text.drop p).take 1) ∧ c' = lexOwn P x text (p + 1) push) rfl rfl rfl ?_ rfl rfl rfl rfl rfl rfl rfl rfl ?_ ?_).le (by decide))
 ·intro vs hv; refine el11 (len1 hv) fun a y0 => ?_; subst y0; kernel_rfl
 ·intro G' hK' _ X L
  have hds : ∀ q l, (x.ds, OO.ns (streamNs P x)) ∈ pieceOwn x.ct x.cg x.g text q ++ lexRest P x l push := fun q l => by simp
  have hdl : ∀ q l, (x.dl, OO.ns (lexNs 76 l (.inst 76 x.ds) x.pb)) ∈ pieceOwn x.ct x.cg x.g text q ++ lexRest P x l push := fun q l => by simp
  refine ex_assignG (by kernel_rfl) rfl (evG_fattr (C := 76) (dx := x.ds) (fs := streamNs P x) (c := pieceOwn x.ct x.cg x.g text p) (r := lexRest P x (lineF text p) push) (ds := [.int 1]) rfl (ev_attr (C := 76) (dx := x.dl) (fs := lexNs 76 (lineF text p) (.inst 76 x.ds) x.pb) (d := .inst 76 x.ds) rfl ?_ (hdl _ _) rfl ?_ ?_ ?_) (hds _ _) rfl (by rw [hK']; kernel_rfl) (by rw [hK']; kernel_rfl) ?_ rfl (piece_any hK' x.ct x.cg x.g text p hl)) ?_
  ·ac_rfl
  ·rw [hK']; kernel_rfl
  ·rw [hK']; kernel_rfl
  ·rfl
  ·ac_rfl
  intro d w y0; refine el12 y0 fun c' y0 => ?_; refine el02 y0 fun y0 => ?_; subst y0; intro y0; subst y0; intro y0; subst y0; intro hfresh
  refine ex_if (c := (text.drop p).take 1 == [10]) (tst_cmp rfl ?_ ?_ cmp_eq_str) (fun hc => ?_) (fun hc => ?_)
  iterate 2 (·ac_rfl)
  ·refine ex_augattr (C := 76) (dx := x.dl) (fs := lexNs 76 (lineF text p) (.inst 76 x.ds) x.pb) (d₁ := .int (lineF text p)) (d₂ := .int 1) (d := .int (lineF text p + 1)) ?_ ?_ ?_ ((((OSet.head _).tail _).tail _).tail _) rfl (by rw [hK']; kernel_rfl) (by rw [hK']; kernel_rfl) rfl (Nat.le_of_ble_eq_true (by kernel_rfl)) ?_
   iterate 2 (·ac_rfl)
   ·exact inc_add
   ·refine ex_nil (ex_ret (d := .str ((text.drop p).take 1)) ?_ ⟨rfl, ?_⟩)
    ·ac_rfl
    ·unfold lexOwn; rw [lineF_next, hc]; rfl
  ·refine ex_nil (ex_ret (d := .str ((text.drop p).take 1)) ?_ ⟨rfl, ?_⟩)
   ·ac_rfl
   ·unfold lexOwn; rw [lineF_next, hc]; simp
 ·exact no_cells
end
noncomputable def quotF : List Nat → List Nat × Nat
 | [] => ([], 1)
 | c :: w => if c = 34 then ([], 1) else if c = 92 then (match w with | [] => ([], 3) | d :: v => (d :: (quotF v).1, (quotF v).2 + 2)) else (c :: (quotF w).1, (quotF w).2 + 1)
noncomputable def bareF : List Nat → List Nat × Nat
 | [] => ([], 1)
 | c :: w => if c ∈ WS then ([], 1) else if c = 92 then (match w with | [] => ([], 3) | d :: v => (d :: (bareF v).1, (bareF v).2 + 2)) else (c :: (bareF w).1, (bareF w).2 + 1)
noncomputable def getF : List Nat → List Nat × Nat
 | [] => ([], 1)
 | c :: w => if c ∈ WS then ((getF w).1, (getF w).2 + 1) else if c = 34 then ((quotF w).1, (quotF w).2 + 1) else if c = 92 then (w.take 1 ++ (bareF (w.drop 1)).1, (bareF (w.drop 1)).2 + 2) else (c :: (bareF w).1, (bareF w).2 + 1)
theorem quotF_esc (w : List Nat) : quotF (92 :: w) = (w.take 1 ++ (quotF (w.drop 1)).1, (quotF (w.drop 1)).2 + 2) := by
 cases w <;> simp [quotF]
theorem bareF_esc (w : List Nat) : bareF (92 :: w) = (w.take 1 ++ (bareF (w.drop 1)).1, (bareF (w.drop 1)).2 + 2) := by
 have : (92 : Nat) ∉ WS := by decide
 cases w <;> simp [bareF, this]
theorem NextC.weaken {G : Gd} {n : Nat} {env : Env} {ρ : Loc} {ow : Own} {q : Addr} {Y Y' : List Nat → Own → Prop} {N N' : Own → Prop} (x : NextC G n env ρ ow q Y N) (hy : ∀ l w, Y l w → Y' l w) (hn : ∀ w, N w → N' w) : NextC G n env ρ ow q Y' N' :=
 ⟨fun X A s E Q Rm F h1 h2 => x.go X A s E Q Rm F (fun v l w X' s' y => h1 v l w X' s' (hy _ _ y)) fun w X' s' z => h2 w X' s' (hn _ z)⟩
noncomputable abbrev getOwn (P : Params) (x : Lx) (text : List Nat) (q : Addr) (p : Nat) (dn : Bool) : Own := lexOwn P x text p [] ++ [(q, .citer (.meth 59 76 x.dl) [] dn)]
structure GetI (text T : List Nat) (pf : Nat) (F : List Nat → List Nat × Nat) (p : Nat) (tok : List Nat) : Prop where
 word : tok ++ (F (text.drop p)).1 = T
 pos : p + (F (text.drop p)).2 = pf
 len : tok.length ≤ p
theorem drop_next {text : List Nat} {p c : Nat} {r : List Nat} (h : text.drop p = c :: r) : text.drop (p + 1) = r ∧ p < text.length ∧ (text.drop p).take 1 = [c] := by
 refine ⟨?_, ?_, by rw [h]; rfl⟩
 ·rw [← List.drop_drop, h]; rfl
 ·apply Classical.byContradiction; intro z
  rw [List.drop_of_length_le (by omega)] at h; injection h
theorem drop_two {text : List Nat} {p c : Nat} {r : List Nat} (h : text.drop p = c :: r) : text.drop (p + 2) = r.drop 1 := by
 rw [← (drop_next h).1, List.drop_drop]
theorem one_of {l : List Nat} (h : l.take 1 ≠ []) : ∃ c r, l = c :: r := by
 cases l with
 | nil => exact absurd rfl h
 | cons c r => exact ⟨c, r, rfl⟩
section
variable {text T tok : List Nat} {pf p c : Nat} {r : List Nat}
theorem GetI.qend (h : GetI text T pf quotF p tok) (e : text.drop p = []) : tok = T ∧ p + 1 = pf := by
 have h1 := h.word; have h2 := h.pos; rw [e] at h1 h2; exact ⟨by simpa [quotF] using h1, h2⟩
theorem GetI.bend (h : GetI text T pf bareF p tok) (e : text.drop p = []) : tok = T ∧ p + 1 = pf := by
 have h1 := h.word; have h2 := h.pos; rw [e] at h1 h2; exact ⟨by simpa [bareF] using h1, h2⟩
theorem GetI.gend (h : GetI text T pf getF p []) (e : text.drop p = []) : [] = T ∧ p + 1 = pf := by
 have h1 := h.word; have h2 := h.pos; rw [e] at h1 h2; exact ⟨by simpa [getF] using h1, h2⟩
theorem GetI.qclose (h : GetI text T pf quotF p tok) (e : text.drop p = 34 :: r) : tok = T ∧ p + 1 = pf := by
 have h1 := h.word; have h2 := h.pos
 have q : quotF (34 :: r) = ([], 1) := by cases r <;> simp [quotF]
 rw [e, q] at h1 h2; exact ⟨by simpa using h1, h2⟩
theorem GetI.bclose (h : GetI text T pf bareF p tok) (e : text.drop p = c :: r) (hc : c ∈ WS) : tok = T ∧ p + 1 = pf := by
 have h1 := h.word; have h2 := h.pos
 have q : bareF (c :: r) = ([], 1) := by cases r <;> simp [bareF, hc]
 rw [e, q] at h1 h2; exact ⟨by simpa using h1, h2⟩
theorem GetI.qesc (h : GetI text T pf quotF p tok) (e : text.drop p = 92 :: r) : GetI text T pf quotF (p + 2) (tok ++ (text.drop (p + 1)).take 1) := by
 have h1 := h.word; have h2 := h.pos; have h3 := h.len
 rw [e, quotF_esc] at h1 h2
 refine ⟨?_, ?_, ?_⟩
 ·rw [drop_two e, (drop_next e).1, List.append_assoc]; exact h1
 ·rw [drop_two e]; omega
 ·rw [List.length_append, List.length_take]; omega
theorem GetI.besc (h : GetI text T pf bareF p tok) (e : text.drop p = 92 :: r) : GetI text T pf bareF (p + 2) (tok ++ (text.drop (p + 1)).take 1) := by
 have h1 := h.word; have h2 := h.pos; have h3 := h.len
 rw [e, bareF_esc] at h1 h2
 refine ⟨?_, ?_, ?_⟩
 ·rw [drop_two e, (drop_next e).1, List.append_assoc]; exact h1
 ·rw [drop_two e]; omega
 ·rw [List.length_append, List.length_take]; omega
theorem GetI.qone (h : GetI text T pf quotF p tok) (e : text.drop p = c :: r) (h34 : c ≠ 34) (h92 : c ≠ 92) : GetI text T pf quotF (p + 1) (tok ++ [c]) := by
 have h1 := h.word; have h2 := h.pos; have h3 := h.len
 have q : quotF (c :: r) = (c :: (quotF r).1, (quotF r).2 + 1) := by cases r <;> simp [quotF, h34, h92]
 rw [e, q] at h1 h2
 refine ⟨?_, ?_, ?_⟩
 ·rw [(drop_next e).1, List.append_assoc]; exact h1
 ·rw [(drop_next e).1]; omega
 ·rw [List.length_append, List.length_singleton]; omega
theorem GetI.bone (h : GetI text T pf bareF p tok) (e : text.drop p = c :: r) (hc : c ∉ WS) (h92 : c ≠ 92) : GetI text T pf bareF (p + 1) (tok ++ [c]) := by
 have h1 := h.word; have h2 := h.pos; have h3 := h.len
 have q : bareF (c :: r) = (c :: (bareF r).1, (bareF r).2 + 1) := by cases r <;> simp [bareF, hc, h92]
 rw [e, q] at h1 h2
 refine ⟨?_, ?_, ?_⟩
 ·rw [(drop_next e).1, List.append_assoc]; exact h1
 ·rw [(drop_next e).1]; omega
 ·rw [List.length_append, List.length_singleton]; omega
theorem GetI.gskip (h : GetI text T pf getF p []) (e : text.drop p = c :: r) (hc : c ∈ WS) : GetI text T pf getF (p + 1) [] := by
 have h1 := h.word; have h2 := h.pos
 have q : getF (c :: r) = ((getF r).1, (getF r).2 + 1) := by simp [getF, hc]
 rw [e, q] at h1 h2
 refine ⟨?_, ?_, by simp⟩
 ·rw [(drop_next e).1]; exact h1
 ·rw [(drop_next e).1]; omega
theorem GetI.gquot (h : GetI text T pf getF p []) (e : text.drop p = 34 :: r) : GetI text T pf quotF (p + 1) [] := by
 have h1 := h.word; have h2 := h.pos
 have q : getF (34 :: r) = ((quotF r).1, (quotF r).2 + 1) := by have : (34 : Nat) ∉ WS := by decide
                                                                simp [getF, this]
 rw [e, q] at h1 h2
 refine ⟨?_, ?_, by simp⟩
 ·rw [(drop_next e).1]; exact h1
 ·rw [(drop_next e).1]; omega
theorem GetI.gesc (h : GetI text T pf getF p []) (e : text.drop p = 92 :: r) : GetI text T pf bareF (p + 2) ([] ++ (text.drop (p + 1)).take 1) := by
 have h1 := h.word; have h2 := h.pos
 have q : getF (92 :: r) = (r.take 1 ++ (bareF (r.drop 1)).1, (bareF (r.drop 1)).2 + 2) := by have : (92 : Nat) ∉ WS := by decide
                                                                                              simp [getF, this]
 rw [e, q] at h1 h2
 refine ⟨?_, ?_, ?_⟩
 ·rw [drop_two e, (drop_next e).1]; exact h1
 ·rw [drop_two e]; omega
 ·simp; omega
theorem GetI.gone (h : GetI text T pf getF p []) (e : text.drop p = c :: r) (hc : c ∉ WS) (h34 : c ≠ 34) (h92 : c ≠ 92) : GetI text T pf bareF (p + 1) ([] ++ [c]) := by
 have h1 := h.word; have h2 := h.pos
 have q : getF (c :: r) = (c :: (bareF r).1, (bareF r).2 + 1) := by simp [getF, hc, h34, h92]
 rw [e, q] at h1 h2
 refine ⟨?_, ?_, by simp⟩
 ·rw [(drop_next e).1]; exact h1
 ·rw [(drop_next e).1]; omega
end
section
variable {P : Params} {G : Gd} (hK : G.K = K02 P)
include hK
set_option maxHeartbeats 8000000
theorem next_is (x : Lx) (text : List Nat) (hl : text.length ≤ 1000) (q : Addr) (p : Nat) (env : Env) (ρ : Loc) : NextC G 40 env ρ (getOwn P x text q p false) q (fun l w => (text.drop p).take 1 = l ∧ l ≠ [] ∧ w = getOwn P x text q (p + 1) false) (fun w => text.drop p = [] ∧ w = getOwn P x text q (p + 1) true) := by
 refine (next_ci (r := []) (f := 59) ((read_is hK x text p [] hl).le (m := 39) (by decide)) ?_ (by rw [hK]; kernel_rfl)).weaken ?_ ?_
 ·intro d c' y0; refine el02 y0 fun y0 => ?_; subst y0; intro y0; subst y0; exact ⟨_, rfl⟩
 ·intro l w y0; obtain ⟨hne, c', ⟨e, rfl⟩, rfl⟩ := y0
  injection e with e
  exact ⟨e.symm, hne, rfl⟩
 ·intro w y0; refine el12 y0 fun c' y0 => ?_; refine el02 y0 fun e y0 => ?_; subst y0; intro y0; subst y0
  injection e with e
  refine ⟨?_, rfl⟩
  cases h : text.drop p with
  | nil => rfl
  | cons a r => rw [h] at e; injection e
theorem next_both (x : Lx) (text : List Nat) (hl : text.length ≤ 1000) (q : Addr) (p : Nat) (dn : Bool) (env : Env) (ρ : Loc) : NextC G 40 env ρ (getOwn P x text q p dn) q (fun l w => dn = false ∧ (text.drop p).take 1 = l ∧ l ≠ [] ∧ w = getOwn P x text q (p + 1) false) (fun w => (dn = false ∧ text.drop p = [] ∧ w = getOwn P x text q (p + 1) true) ∨ (dn = true ∧ w = getOwn P x text q p true)) := by
 cases dn with
 | false => exact (next_is hK x text hl q p env ρ).weaken (fun l w h => ⟨rfl, h⟩) fun w h => .inl ⟨rfl, h⟩
 | true => exact (next_over (df := .meth 59 76 x.dl) (sent := []) (by simp)).weaken (fun l w h => h.elim) fun w h => .inr ⟨rfl, h⟩
theorem get_is (x : Lx) (text : List Nat) (hl : text.length ≤ 1000) (p : Nat) (T : List Nat) (pf : Nat) (hT : (getF (text.drop p)).1 = T) (hpf : p + (getF (text.drop p)).2 = pf) : FnG G 41 (.ref 66) [.inst 76 x.dl] (lexOwn P x text p []) (fun d c' => d = .str T ∧ c' = lexOwn P x text pf []) := by
 refine (fnG_K (n := 40) hK [("self", .inst 76 x.dl)] (lexOwn P x text p []) (R := fun d c' => d = .str T ∧ ∃ q dn, c' = getOwn P x text q pf dn) (R' := fun _ d _ c' => d = .str T ∧ ∃ q dn, c' = getOwn P x text q pf dn) rfl rfl rfl ?_ rfl rfl rfl rfl rfl rfl rfl rfl ?_ no_cells).own ?_
 rotate_left 2
 ·intro d w y0; obtain ⟨rfl, q, dn, rfl⟩ := y0
  refine ⟨_, ⟨rfl, rfl⟩, fun p hp => List.mem_append_left _ hp, fun h => ?_⟩
  rw [keysOf, List.map_append, List.nodup_append] at h
  exact h.1
 ·intro vs hv; refine el11 (len1 hv) fun a y0 => ?_; subst y0; kernel_rfl
 intro G' hK' _ X L
 have hdl : ∀ q l p dn, (x.dl, OO.ns (lexNs 76 l (.inst 76 x.ds) x.pb)) ∈ pieceOwn x.ct x.cg x.g text p ++ lexRest P x l [] ++ [(q, .citer (.meth 59 76 x.dl) [] dn)] := fun q l p dn => by simp
 refine ex_if_no (tst_own (a := x.pb) (ds := dstrs []) rfl (ev_attr (C := 76) (dx := x.dl) (fs := lexNs 76 (lineF text p) (.inst 76 x.ds) x.pb) (d := own x.pb) rfl ?_ ?_ rfl (by rw [hK']; kernel_rfl) (by rw [hK']; kernel_rfl) rfl) (by simp) (by decide)) ?_
 ·ac_rfl
 ·simp
 refine ex_nil ?_
 refine ex_assign (d := .str []) (by kernel_rfl) rfl (ev_litE rfl) ?_
 refine ex_citer (f := 59) (C := 76) (dx := x.dl) (sent := []) (by kernel_rfl) (by kernel_rfl) rfl ?_ (ev_bmeth (C := 76) (dx := x.dl) (f := 59) (fs := lexNs 76 (lineF text p) (.inst 76 x.ds) x.pb) rfl ?_ (by simp) rfl (by rw [hK']; kernel_rfl) (by rw [hK']; kernel_rfl)) (ev_litE rfl) fun q hq => ?_
 iterate 2 (·ac_rfl)
 refine ex_own (ow' := getOwn P x text q p false) (fun y hy => ?_) (fun h => ?_) ?_
 ·refine Or.elim (List.mem_append.mp hy) (fun z => ?_) (fun z => ?_)
  ·exact List.mem_cons_of_mem _ z
  ·rw [List.mem_singleton.mp z]; exact List.mem_cons_self ..
 ·rw [keysOf, List.map_cons, List.nodup_cons] at h
  rw [keysOf, List.map_append, List.nodup_append]
  refine ⟨h.2, by simp, fun a ha b hb e => ?_⟩
  simp only [List.map_cons, List.map_nil, List.mem_singleton] at hb
  subst hb e
  exact h.1 ha
 refine ex_forC (σ := Nat × List Nat × Bool) (q := q) (df := .meth 59 76 x.dl) (sent := []) (by kernel_rfl) ?_ ⟨false, by simp⟩ (fun b => [("token", .str b.2.1), ("fiter", own q), ("self", .inst 76 x.dl)]) (fun b => getOwn P x text q b.1 b.2.2) (fun b => if b.2.2 then b.2.1 = T ∧ b.1 = pf else b.2.1 = [] ∧ GetI text T pf getF b.1 []) (fun b => text.length - b.1) (p, [], false) ?_ ?_ (fun _ h => h) (fun _ => rfl) _ _ (fun b hb => next_both hK' x text hl q b.1 b.2.2 _ _) ?_ ?_ ?_ ?_
 ·ac_rfl
 ·exact ⟨rfl, hT, hpf, by simp⟩
 ·walk_at "subs"
 ·intro b l w hb y0; refine el04 y0 fun h1 h2 h3 y0 => ?_; subst y0; rfl
 ·rintro b w hb (⟨h1, h2, rfl⟩ | ⟨h1, rfl⟩) <;> rfl
 ·intro y0; obtain ⟨p', tok, dn⟩ := y0; intro l w hb y0; refine el04 y0 fun h1 h2 h3 y0 => ?_; subst y0
  simp only at h1 h2 h3 hb
  subst h1 h2
  refine el02 hb fun y0 => ?_; subst y0; intro hb
  refine el21 (one_of h3) fun c r hr => ?_
  refine el03 (drop_next hr) fun hr1 hp1 hr2 => ?_
  rw [hr2]
  refine ex_if (c := decide (c ∈ WS)) (tst_cmp rfl ?_ (ev_attr (C := 76) (dx := x.dl) (fs := lexNs 76 (lineF text (p' + 1)) (.inst 76 x.ds) x.pb) (d := .str WS) rfl ?_ ?_ rfl ?_ ?_ rfl) cmp_in_str) (fun hc => ?_) fun hc => ?_
  iterate 2 (·ac_rfl)
  ·simp
  ·rw [hK']; kernel_rfl
  ·rw [hK']; kernel_rfl
  ·refine ex_cont ⟨(p' + 1, [], false), ⟨rfl, hb.gskip hr (of_decide_eq_true hc)⟩, ?_, ?_, fun _ h => h⟩
   ·show text.length - (p' + 1) < text.length - p'; omega
   ·walk_at "subs"
  refine ex_nil ?_
  have hc' := of_decide_eq_false hc
  refine ex_if (c := [c] == [34]) (tst_cmp rfl ?_ ?_ cmp_eq_str) (fun h34 => ?_) fun h34 => ?_
  iterate 2 (·ac_rfl)
  ·have h34' : c = 34 := by simpa using h34
   subst h34'
   refine ex_forC (σ := Nat × List Nat) (q := q) (df := .meth 59 76 x.dl) (sent := []) (by kernel_rfl) ?_ ⟨false, by simp⟩ (fun b => [("token", .str b.2), ("fiter", own q), ("self", .inst 76 x.dl)]) (fun b => getOwn P x text q b.1 false) (fun b => p' < b.1 ∧ GetI text T pf quotF b.1 b.2) (fun b => text.length - b.1) (p' + 1, []) ?_ ?_ (fun _ h => h) (fun _ => rfl) _ _ (fun b hb => next_is hK' x text hl q b.1 _ _) ?_ ?_ ?_ ?_
   ·ac_rfl
   ·exact ⟨by show p' < _; omega, hb.gquot hr⟩
   ·walk_at "subs"
   ·intro b l w hb y0; refine el03 y0 fun h2 h3 y0 => ?_; subst y0; rfl
   ·intro b w hb y0; refine el02 y0 fun h2 y0 => ?_; subst y0; rfl
   ·intro y0; obtain ⟨p2, tok⟩ := y0; intro l w hb y0; refine el03 y0 fun h2 h3 y0 => ?_; subst y0
    simp only at h2 h3 hb
    subst h2
    refine el02 hb fun hpp hb => ?_
    refine el21 (one_of h3) fun c r hr => ?_
    refine el03 (drop_next hr) fun hr1 hp2 hr2 => ?_
    have htk := hb.len
    rw [hr2]
    refine ex_if (c := [c] == [34]) (tst_cmp rfl ?_ ?_ cmp_eq_str) (fun h34 => ?_) fun h34 => ?_
    iterate 2 (·ac_rfl)
    ·have h34' : c = 34 := by simpa using h34
     subst h34'
     refine el02 (hb.qclose hr) fun h5 h6 => ?_
     refine ex_ret (d := .str tok) ?_ ⟨by rw [h5], q, false, by rw [h6]⟩
     ac_rfl
    have hne : c ≠ 34 := by simpa using h34
    refine ex_if (c := [c] == [92]) (tst_cmp rfl ?_ ?_ cmp_eq_str) (fun h92 => ?_) fun h92 => ?_
    iterate 2 (·ac_rfl)
    ·have h92' : c = 92 := by simpa using h92
     subst h92'
     refine ex_assignG (by kernel_rfl) (by kernel_rfl) (evG_imeth0 (C := 76) (dx := x.dl) (f := 59) (fs := lexNs 76 (lineF text (p2 + 1)) (.inst 76 x.ds) x.pb) (c := lexOwn P x text (p2 + 1) []) (r := [(q, .citer (.meth 59 76 x.dl) [] false)]) rfl (by walk_at "one") (hdl _ _ _ _) rfl (by rw [hK']; kernel_rfl) (by rw [hK']; kernel_rfl) (by rw [hK']; kernel_rfl) ((read_is hK' x text (p2 + 1) [] hl).le (by decide))) ?_
     intro d w y0; refine el12 y0 fun c' y0 => ?_; refine el02 y0 fun y0 => ?_; subst y0; intro y0; subst y0; intro y0; subst y0; intro hfresh
     refine ex_nil (ex_nil ?_)
     refine ex_aug (d₁ := .str tok) (d₂ := .str ((text.drop (p2 + 1)).take 1)) (d := .str (tok ++ (text.drop (p2 + 1)).take 1)) (by kernel_rfl) (by kernel_rfl) ?_ ?_ (inc_cat (small (by simp; omega))) ?_
     ·walk_at "lk"
     ·ac_rfl
     ·refine ex_nil (ex_end ⟨(p2 + 2, _), ⟨by show p' < p2 + 2; omega, hb.qesc hr⟩, ?_, ?_, fun _ h => h⟩)
      ·show text.length - (p2 + 2) < text.length - p2; omega
      ·walk_at "subs"
    ·have h92' : c ≠ 92 := by simpa using h92
     refine ex_nil (ex_nil ?_)
     refine ex_aug (d₁ := .str tok) (d₂ := .str [c]) (d := .str (tok ++ [c])) (by kernel_rfl) (by kernel_rfl) ?_ ?_ (inc_cat (small (by simp; omega))) ?_
     ·walk_at "lk"
     ·ac_rfl
     ·refine ex_nil (ex_end ⟨(p2 + 1, _), ⟨by show p' < p2 + 1; omega, hb.qone hr hne h92'⟩, ?_, ?_, fun _ h => h⟩)
      ·show text.length - (p2 + 1) < text.length - p2; omega
      ·walk_at "subs"
   ·intro y0; obtain ⟨p2, tok⟩ := y0; intro w hb y0; refine el02 y0 fun h2 y0 => ?_; subst y0
    refine el02 hb fun hpp hb => ?_
    refine el02 (hb.qend h2) fun h5 h6 => ?_
    refine ex_nil (ex_nil (ex_end ⟨(p2 + 1, tok, true), ⟨h5, h6⟩, ?_, ?_, fun _ h => h⟩))
    ·have hpp' : p' < p2 := hpp
     show text.length - (p2 + 1) < text.length - p'; omega
    ·walk_at "subs"
  ·have h34' : c ≠ 34 := by simpa using h34
   refine ex_if_join (c := [c] == [92]) (S := fun r w => ∃ p0 cs, r = ([("ch", .str cs), ("token", .str []), ("fiter", own q), ("self", .inst 76 x.dl)] : Loc) ∧ w = getOwn P x text q p0 false ∧ cs.length ≤ 1 ∧ p' < p0 ∧ GetI text T pf bareF p0 ([] ++ cs)) (tst_cmp rfl ?_ ?_ cmp_eq_str) ?_ (fun h92 key => ?_) fun h92 key => ?_
   iterate 2 (·ac_rfl)
   ·intro _ _ y0; refine el25 y0 fun p0 cs y0 => ?_; subst y0; intro y0; subst y0; intro hcs hp0 hb0
    refine ex_aug (d₁ := .str []) (d₂ := .str cs) (d := .str ([] ++ cs)) (by kernel_rfl) (by kernel_rfl) ?_ ?_ (inc_cat (small (by simp; omega))) ?_
    ·walk_at "lk"
    ·ac_rfl
    refine ex_forC (σ := Nat × List Nat) (q := q) (df := .meth 59 76 x.dl) (sent := []) (by kernel_rfl) ?_ ⟨false, by simp⟩ (fun b => [("token", .str b.2), ("fiter", own q), ("self", .inst 76 x.dl)]) (fun b => getOwn P x text q b.1 false) (fun b => p' < b.1 ∧ GetI text T pf bareF b.1 b.2) (fun b => text.length - b.1) (p0, [] ++ cs) ?_ ?_ (fun _ h => h) (fun _ => rfl) _ _ (fun b hb => next_is hK' x text hl q b.1 _ _) ?_ ?_ ?_ ?_
    ·ac_rfl
    ·exact ⟨hp0, hb0⟩
    ·walk_at "subs"
    ·intro b l w hb y0; refine el03 y0 fun h2 h3 y0 => ?_; subst y0; rfl
    ·intro b w hb y0; refine el02 y0 fun h2 y0 => ?_; subst y0; rfl
    ·intro y0; obtain ⟨p2, tok⟩ := y0; intro l w hb y0; refine el03 y0 fun h2 h3 y0 => ?_; subst y0
     simp only at h2 h3 hb
     subst h2
     refine el02 hb fun hpp hb => ?_
     refine el21 (one_of h3) fun c r hr => ?_
     refine el03 (drop_next hr) fun hr1 hp2 hr2 => ?_
     have htk := hb.len
     rw [hr2]
     refine ex_if (c := decide (c ∈ WS)) (tst_cmp rfl ?_ (ev_attr (C := 76) (dx := x.dl) (fs := lexNs 76 (lineF text (p2 + 1)) (.inst 76 x.ds) x.pb) (d := .str WS) rfl ?_ ?_ rfl ?_ ?_ rfl) cmp_in_str) (fun hc => ?_) fun hc => ?_
     iterate 2 (·ac_rfl)
     ·simp
     ·rw [hK']; kernel_rfl
     ·rw [hK']; kernel_rfl
     ·refine el02 (hb.bclose hr (of_decide_eq_true hc)) fun h5 h6 => ?_
      refine ex_ret (d := .str tok) ?_ ⟨by rw [h5], q, false, by rw [h6]⟩
      ac_rfl
     have hne := of_decide_eq_false hc
     refine ex_if (c := [c] == [92]) (tst_cmp rfl ?_ ?_ cmp_eq_str) (fun h92 => ?_) fun h92 => ?_
     iterate 2 (·ac_rfl)
     ·have h92' : c = 92 := by simpa using h92
      subst h92'
      refine ex_assignG (by kernel_rfl) (by kernel_rfl) (evG_imeth0 (C := 76) (dx := x.dl) (f := 59) (fs := lexNs 76 (lineF text (p2 + 1)) (.inst 76 x.ds) x.pb) (c := lexOwn P x text (p2 + 1) []) (r := [(q, .citer (.meth 59 76 x.dl) [] false)]) rfl (by walk_at "one") (hdl _ _ _ _) rfl (by rw [hK']; kernel_rfl) (by rw [hK']; kernel_rfl) (by rw [hK']; kernel_rfl) ((read_is hK' x text (p2 + 1) [] hl).le (by decide))) ?_
      intro d w y0; refine el12 y0 fun c' y0 => ?_; refine el02 y0 fun y0 => ?_; subst y0; intro y0; subst y0; intro y0; subst y0; intro hfresh
      refine ex_nil (ex_nil ?_)
      refine ex_aug (d₁ := .str tok) (d₂ := .str ((text.drop (p2 + 1)).take 1)) (d := .str (tok ++ (text.drop (p2 + 1)).take 1)) (by kernel_rfl) (by kernel_rfl) ?_ ?_ (inc_cat (small (by simp; omega))) ?_
      ·walk_at "lk"
      ·ac_rfl
      ·refine ex_nil (ex_end ⟨(p2 + 2, _), ⟨by show p' < p2 + 2; omega, hb.besc hr⟩, ?_, ?_, fun _ h => h⟩)
       ·show text.length - (p2 + 2) < text.length - p2; omega
       ·walk_at "subs"
     ·have h92' : c ≠ 92 := by simpa using h92
      refine ex_nil (ex_nil ?_)
      refine ex_aug (d₁ := .str tok) (d₂ := .str [c]) (d := .str (tok ++ [c])) (by kernel_rfl) (by kernel_rfl) ?_ ?_ (inc_cat (small (by simp; omega))) ?_
      ·walk_at "lk"
      ·ac_rfl
      ·refine ex_nil (ex_end ⟨(p2 + 1, _), ⟨by show p' < p2 + 1; omega, hb.bone hr hne h92'⟩, ?_, ?_, fun _ h => h⟩)
       ·show text.length - (p2 + 1) < text.length - p2; omega
       ·walk_at "subs"
    ·intro y0; obtain ⟨p2, tok⟩ := y0; intro w hb y0; refine el02 y0 fun h2 y0 => ?_; subst y0
     refine el02 hb fun hpp hb => ?_
     refine el02 (hb.bend h2) fun h5 h6 => ?_
     refine ex_nil (ex_nil (ex_end ⟨(p2 + 1, tok, true), ⟨h5, h6⟩, ?_, ?_, fun _ h => h⟩))
     ·have hpp' : p' < p2 := hpp
      show text.length - (p2 + 1) < text.length - p'; omega
     ·walk_at "subs"
   ·have h92' : c = 92 := by simpa using h92
    subst h92'
    refine ex_assignG (by kernel_rfl) (by kernel_rfl) (evG_imeth0 (C := 76) (dx := x.dl) (f := 59) (fs := lexNs 76 (lineF text (p' + 1)) (.inst 76 x.ds) x.pb) (c := lexOwn P x text (p' + 1) []) (r := [(q, .citer (.meth 59 76 x.dl) [] false)]) rfl (by walk_at "one") (hdl _ _ _ _) rfl (by rw [hK']; kernel_rfl) (by rw [hK']; kernel_rfl) (by rw [hK']; kernel_rfl) ((read_is hK' x text (p' + 1) [] hl).le (by decide))) ?_
    intro d w y0; refine el12 y0 fun c' y0 => ?_; refine el02 y0 fun y0 => ?_; subst y0; intro y0; subst y0; intro y0; subst y0; intro hfresh
    exact ex_nil (ex_sub (by walk_at "subs") (key _ _ ⟨p' + 2, (text.drop (p' + 1)).take 1, rfl, rfl, by rw [List.length_take]; omega, by omega, hb.gesc hr⟩))
   ·have h92' : c ≠ 92 := by simpa using h92
    exact ex_nil (ex_sub (by walk_at "subs") (key _ _ ⟨p' + 1, [c], rfl, rfl, by simp, by omega, hb.gone hr hc' h34' h92'⟩))
 ·intro y0; obtain ⟨p', tok, dn⟩ := y0; intro w hb hn
  simp only at hb hn
  rcases hn with ⟨rfl, h2, rfl⟩ | ⟨rfl, rfl⟩
  ·refine el02 hb fun y0 => ?_; subst y0; intro hb
   refine el02 (hb.gend h2) fun h3 h4 => ?_
   refine ex_ret (d := .str []) ?_ ⟨by rw [h3], q, true, by rw [h4]⟩
   ac_rfl
  ·refine el02 hb fun y0 => ?_; subst y0; intro y0; subst y0
   refine ex_ret (d := .str tok) ?_ ⟨rfl, q, true, rfl⟩
   ac_rfl
end
theorem dstrs_len (ls : List (List Nat)) : (dstrs ls).length = ls.length := List.length_map ..
section
variable {P : Params} {G : Gd} (hK : G.K = K02 P)
include hK
set_option maxHeartbeats 4000000
theorem pop_is (x : Lx) (text : List Nat) (p : Nat) (a : List Nat) (r : List (List Nat)) (hr : r.length ≤ 1000) : FnG G 41 (.ref 66) [.inst 76 x.dl] (lexOwn P x text p (a :: r)) (fun d c' => d = .str a ∧ c' = lexOwn P x text p r) := by
 have hl : (dstrs (a :: r)).length ≤ 1000000 := by rw [dstrs_len, List.length_cons]; omega
 refine fnG_K (n := 40) hK [("self", .inst 76 x.dl)] (lexOwn P x text p (a :: r)) (R' := fun _ d _ c' => d = .str a ∧ c' = lexOwn P x text p r) rfl rfl rfl ?_ rfl rfl rfl rfl rfl rfl rfl rfl ?_ no_cells
 ·intro vs hv; refine el11 (len1 hv) fun a y0 => ?_; subst y0; kernel_rfl
 intro G' hK' _ X L
 refine ex_if_yes (tst_own (a := x.pb) (ds := dstrs (a :: r)) rfl (ev_attr (C := 76) (dx := x.dl) (fs := lexNs 76 (lineF text p) (.inst 76 x.ds) x.pb) (d := own x.pb) rfl ?_ ?_ rfl (by rw [hK']; kernel_rfl) (by rw [hK']; kernel_rfl) rfl) (by simp) (by omega)) ?_
 ·ac_rfl
 ·simp
 refine ex_retG (evG_pop (i := 0) (j := 0) (a := x.pb) (d := .str a) (ds := dstrs (a :: r)) (ow' := lexOwn P x text p r) rfl (ev_attr (C := 76) (dx := x.dl) (fs := lexNs 76 (lineF text p) (.inst 76 x.ds) x.pb) (d := own x.pb) rfl ?_ ?_ rfl (by rw [hK']; kernel_rfl) (by rw [hK']; kernel_rfl) rfl) ev_int rfl rfl rfl (((((OSet.head _).tail _).tail _).tail _).tail _) hl) fun d w h => h
 ·ac_rfl
 ·simp
theorem push_is (x : Lx) (text : List Nat) (p : Nat) (t : List Nat) (push : List (List Nat)) (hr : push.length ≤ 1000) : FnG G 41 (.ref 73) [.inst 76 x.dl, .str t] (lexOwn P x text p push) (fun d c' => d = .none ∧ c' = lexOwn P x text p (push ++ [t])) := by
 refine fnG_K (n := 40) hK [("self", .inst 76 x.dl), ("token", .str t)] (lexOwn P x text p push) (R' := fun _ d _ c' => d = .none ∧ c' = lexOwn P x text p (push ++ [t])) rfl rfl rfl ?_ rfl rfl rfl rfl rfl rfl rfl rfl ?_ no_cells
 ·intro vs hv; refine el21 (len2 hv) fun a b y0 => ?_; subst y0; kernel_rfl
 intro G' hK' _ X L
 have e : dstrs (push ++ [t]) = dstrs push ++ [.str t] := List.map_append ..
 refine ex_append (a := x.pb) (ds := dstrs push) (d := .str t) (ow' := lexOwn P x text p (push ++ [t])) (ev_attr (C := 76) (dx := x.dl) (fs := lexNs 76 (lineF text p) (.inst 76 x.ds) x.pb) (d := own x.pb) rfl ?_ ?_ rfl (by rw [hK']; kernel_rfl) (by rw [hK']; kernel_rfl) rfl) ?_ ?_ rfl (small (by rw [dstrs_len]; omega)) rfl rfl rfl (ex_nil (ex_end ⟨rfl, rfl⟩))
 ·ac_rfl
 ·simp
 ·unfold lexOwn lexRest
  rw [e]
  exact ((((OSet.head _).tail _).tail _).tail _).tail _
 ·ac_rfl
end
theorem signs_ok {l : List Nat} (h : ∀ c ∈ l, c < 0x110000) : pysOk (signs l) = true ∧ PyData.canLayAll0 (pys (signs l)) = true := by
 induction l with
 | nil => exact ⟨rfl, rfl⟩
 | cons c l ih =>
  refine el02 (ih fun x q => h x (.tail _ q)) fun h1 h2 => ?_
  have hok : PyData.strOk (tx [c]) = true := by unfold PyData.strOk; simpa using h c (.head _)
  exact ⟨h1, by show (PyData.strOk (tx [c]) && _) = true; rw [hok]; exact h2⟩
theorem signs_in (c : Nat) (l : List Nat) : ((pys (signs l)).any fun y => PyData.eqv y (py (.str [c]))) = l.contains c := by
 induction l with
 | nil => rfl
 | cons a l ih =>
  rw [List.contains_cons, ← ih]
  show (PyData.eqv (.str (tx [a])) (.str (tx [c])) || _) = _
  congr 1
  show (tx [a] == tx [c]) = _
  rw [tx_beq, one_beq]
  exact Bool.beq_comm
theorem cmp_in_signs {c : Nat} {l : List Nat} (h : ∀ c ∈ l, c < 0x110000) (hc : c < 0x110000) : CmpIs .In (.str [c]) (.list (signs l)) (l.contains c) :=
 cmp_in_data (signs_ok h).1 rfl (signs_ok h).2 (by show PyData.strOk (tx [c]) = true; unfold PyData.strOk; simpa using hc) (by show 0 < 64; decide) (signs_in c l)
theorem idxs_nodup {l : List Nat} (hn : l.Nodup) {c : Nat} (hc : c ∈ l) : idxs c l = [l.idxOf c] := by
 refine el21 (List.append_of_mem hc) fun a b y0 => ?_; subst y0
 have hd := List.nodup_append.mp hn
 have ha : c ∉ a := fun q => hd.2.2 c q c (.head _) rfl
 have hb : c ∉ b := (List.nodup_cons.mp hd.2.1).1
 rw [idxs_at ha hb, List.idxOf_append, if_neg ha, List.idxOf_cons_self, Nat.zero_add]
noncomputable def subsF : List Nat → List (List Nat)
 | [] => [[]]
 | x :: r => (subsF r).map (x :: ·) ++ subsF r
theorem filter_subs (p : Nat → Bool) : ∀ l : List Nat, l.filter p ∈ subsF l
 | [] => .head _
 | x :: r => by
  have ih := filter_subs p r
  unfold subsF
  rw [List.filter_cons]
  split
  ·exact List.mem_append.mpr (.inl (List.mem_map.mpr ⟨_, ih, rfl⟩))
  ·exact List.mem_append.mpr (.inr ih)
theorem subs_len : ∀ l : List Nat, (subsF l).length = 2 ^ l.length
 | [] => rfl
 | x :: r => by
  unfold subsF
  rw [List.length_append, List.length_map, subs_len r, List.length_cons, Nat.pow_succ]; omega
noncomputable def unk (deck : List Nat) (f : List Nat → Option Nat) : Nat := ((subsF deck).filter fun x => (f x).isNone).length
theorem unk_le {deck : List Nat} (h4 : deck.length = 4) (f : List Nat → Option Nat) : unk deck f ≤ 16 := by
 have h := List.length_filter_le (fun x => (f x).isNone) (subsF deck)
 rw [subs_len, h4] at h
 exact h
theorem unk_put {deck a : List Nat} {f : List Nat → Option Nat} (v : Nat) (ha : a ∈ subsF deck) (hf : f a = none) : unk deck (putTurn f a v) + 1 ≤ unk deck f := by
 unfold unk
 generalize subsF deck = L at ha
 have le : ∀ L : List (List Nat), (L.filter fun x => (putTurn f a v x).isNone).length ≤ (L.filter fun x => (f x).isNone).length := fun L => by
  rw [← List.countP_eq_length_filter, ← List.countP_eq_length_filter]
  refine List.countP_mono_left fun x _ h => ?_
  unfold putTurn at h
  split at h
  ·injection h
  ·exact h
 induction L with
 | nil => cases ha
 | cons b L ih =>
  by_cases e : a = b
  ·subst e
   rw [List.filter_cons_of_neg (by unfold putTurn; rw [if_pos rfl]; exact fun z => Bool.noConfusion z), List.filter_cons_of_pos (by rw [hf]; rfl), List.length_cons]
   exact Nat.succ_le_succ (le L)
  ·have ih := ih ((List.mem_cons.mp ha).resolve_left e)
   have hb : putTurn f a v b = f b := if_neg fun q => e q.symm
   rw [List.filter_cons, List.filter_cons, hb]
   split
   ·rw [List.length_cons, List.length_cons]; omega
   ·exact ih
structure Sr where
 q : List (List Nat)
 f : List Nat → Option Nat
 k : Nat
noncomputable def stepS (ok : Bool) (t : Nat) (s : Sr) (a : List Nat) : Sr := if (ok && (s.f a).isNone) = true then ⟨s.q ++ [a], putTurn s.f a (t + 1), s.k + 1⟩ else s
noncomputable def stS (ws : List (List Nat)) (ok : List Nat → Bool) (t : Nat) (s : Sr) (i : Nat) : Sr := (ws.take i).foldl (fun s a => stepS (ok a) t s a) s
theorem stS_succ {ws : List (List Nat)} {ok : List Nat → Bool} {t : Nat} {s : Sr} {i : Nat} {a : List Nat} (h : ws[i]? = some a) : stS ws ok t s (i + 1) = stepS (ok a) t (stS ws ok t s i) a := by
 unfold stS
 rw [List.take_add_one, h, List.foldl_append]; rfl
noncomputable def Grp (deck g : List Nat) : Prop := g ≠ [] ∧ ∃ p : Nat → Bool, g = deck.filter p
structure Sch (deck : List Nat) (W : List Nat → List (List Nat)) (ok tgt src : List Nat → Bool) (s : Sr) (g : List Nat) (t j M : Nat) : Prop where
 bf : Bf W ok tgt src s.q s.f g t j
 cap : s.q.length + unk deck s.f ≤ M
 dic : s.k + unk deck s.f ≤ 40
 grp : ∀ x ∈ g :: s.q, Grp deck x
section
variable {deck : List Nat} {W : List Nat → List (List Nat)} {ok tgt src : List Nat → Bool} {s : Sr} {g : List Nat} {t j M : Nat}
theorem step_val {a : List Nat} (ho : ok a = true) : ∃ n, (stepS (ok a) t s a).f a = some n ∧ ((s.f a = none ∧ n = t + 1) ∨ s.f a = some n) := by
 unfold stepS
 rw [ho, Bool.true_and]
 cases hf : s.f a with
 | none => exact ⟨t + 1, if_pos rfl, .inl ⟨rfl, rfl⟩⟩
 | some n => exact ⟨n, hf, .inr rfl⟩
theorem Sch.step (h : Sch deck W ok tgt src s g t j M) {a : List Nat} (ha : (W g)[j]? = some a) {p : Nat → Bool} (hp : a = deck.filter p) (hne : ok a = true → a ≠ []) (ht : tgt a = false) : Sch deck W ok tgt src (stepS (ok a) t s a) g t (j + 1) M := by
 have hs : a ∈ subsF deck := hp ▸ filter_subs p deck
 cases ho : ok a with
 | false => exact ⟨h.bf.way ha (fun z => (by rw [ho] at z; injection z)) (fun z => (by rw [ho] at z; injection z)) (fun _ => ⟨rfl, rfl⟩) ht, h.cap, h.dic, h.grp⟩
 | true =>
  cases hf : s.f a with
  | some n =>
   have e : stepS true t s a = s := if_neg (by rw [hf]; exact fun z => Bool.noConfusion z)
   rw [e]
   exact ⟨h.bf.way ha (fun _ z => (by rw [hf] at z; injection z)) (fun _ _ => ⟨rfl, rfl⟩) (fun z => (by rw [ho] at z; injection z)) ht, h.cap, h.dic, h.grp⟩
  | none =>
   have e : stepS true t s a = ⟨s.q ++ [a], putTurn s.f a (t + 1), s.k + 1⟩ := if_pos (by rw [hf]; rfl)
   rw [e]
   have hu := unk_put (f := s.f) (t + 1) hs hf
   have hc := h.cap
   have hd := h.dic
   refine ⟨h.bf.way ha (fun _ _ => ⟨rfl, rfl⟩) (fun _ z => absurd hf z) (fun z => (by rw [ho] at z; injection z)) ht, ?_, ?_, fun x hx => ?_⟩
   ·show (s.q ++ [a]).length + unk deck (putTurn s.f a (t + 1)) ≤ M
    rw [List.length_append, List.length_singleton]; omega
   ·show s.k + 1 + unk deck (putTurn s.f a (t + 1)) ≤ 40
    omega
   ·refine Or.elim (List.mem_cons.mp hx) (fun e => ?_) (fun hx => ?_)
    ·exact h.grp x (e ▸ .head _)
    ·refine Or.elim (List.mem_append.mp hx) (fun hx => ?_) (fun hx => ?_)
     ·exact h.grp x (.tail _ hx)
     ·rw [List.mem_singleton.mp hx]; exact ⟨hne ho, p, hp⟩
theorem Sch.next {g' : List Nat} {r : List (List Nat)} (h : Sch deck W ok tgt src s g t j M) (hj : (W g).length ≤ j) (hq : s.q = g' :: r) : ∃ t', Sch deck W ok tgt src ⟨r, s.f, s.k⟩ g' t' 0 (r.length + unk deck s.f) ∧ r.length + unk deck s.f + 1 ≤ M := by
 have hb := h.bf
 rw [hq] at hb
 refine el12 (hb.que g' (.head _)) fun t' ht _ => ?_
 have hc := h.cap
 rw [hq, List.length_cons] at hc
 exact ⟨t', ⟨hb.next hj ht, Nat.le_refl _, h.dic, fun x hx => h.grp x (by rw [hq]; exact .tail _ hx)⟩, by omega⟩
end
noncomputable def stepM (deck : List Nat) (words : List (List Nat)) (l x : Nat) : Nat := (words.getD (deck.idxOf x) []).getD (l % 3) 0
structure Machine (deck : List Nat) (words : List (List Nat)) : Prop where
 len : deck.length = 4
 nd : deck.Nodup
 stock : ∀ c ∈ deck, c ∈ STOCK
 wlen : words.length = 4
 word : ∀ w ∈ words, w.length = 3 ∧ ∀ c ∈ w, c ∈ deck
section
variable {deck : List Nat} {words : List (List Nat)} (hM : Machine deck words)
include hM
theorem Machine.at {x : Nat} (hx : x ∈ deck) : ∃ w, words[deck.idxOf x]? = some w ∧ w.length = 3 ∧ (∀ c ∈ w, c ∈ deck) ∧ ∀ l, l < 3 → w[l]? = some (stepM deck words l x) := by
 have hi : deck.idxOf x < words.length := by rw [hM.wlen, ← hM.len]; exact List.idxOf_lt_length_of_mem hx
 have hw := hM.word _ (List.getElem_mem hi)
 refine ⟨words[deck.idxOf x], List.getElem?_eq_getElem hi, hw.1, hw.2, fun l hl => ?_⟩
 unfold stepM
 rw [Nat.mod_eq_of_lt hl, List.getD_eq_getElem?_getD, List.getD_eq_getElem?_getD, List.getElem?_eq_getElem hi]
 show (words[deck.idxOf x])[l]? = some ((words[deck.idxOf x])[l]?.getD 0)
 rw [List.getElem?_eq_getElem (by omega)]; rfl
theorem Machine.mem (l x : Nat) (hx : x ∈ deck) : stepM deck words l x ∈ deck := by
 refine el14 (hM.at hx) fun w _ _ h2 h3 => ?_
 have h := h3 (l % 3) (Nat.mod_lt _ (by decide))
 have e : stepM deck words (l % 3) x = stepM deck words l x := by unfold stepM; rw [Nat.mod_mod]
 exact h2 _ (e ▸ List.mem_of_getElem? h)
theorem Machine.small {c : Nat} (h : c ∈ deck) : c < 0x110000 := (by decide +kernel : ∀ c ∈ STOCK, c < 0x110000) c (hM.stock c h)
theorem Machine.group {g : List Nat} (h : Grp deck g) : GroupOk g := by
 obtain ⟨hne, p, rfl⟩ := h
 exact ⟨hne, hM.nd.filter _, by have := List.length_filter_le p deck; rw [hM.len] at this; exact this, fun c hc => hM.stock c (List.mem_filter.mp hc).1⟩
omit hM in
theorem Grp.sub {g : List Nat} (h : Grp deck g) : ∀ x ∈ g, x ∈ deck := by
 obtain ⟨_, p, rfl⟩ := h
 exact fun x hx => (List.mem_filter.mp hx).1
end
theorem keys_mid (x : Addr × OO) (A B : Own) : (keysOf (A ++ x :: B)).Nodup ↔ (keysOf (x :: (A ++ B))).Nodup := by
 unfold keysOf
 exact (List.Perm.map _ List.perm_middle).nodup_iff
theorem osub_mid (x : Addr × OO) (A B : Own) : OSub (A ++ x :: B) (x :: (A ++ B)) := fun p hp => List.perm_middle.mem_iff.mp hp
theorem zs_at {n i : Nat} {d : D} (h : (zs 0 n)[i]? = some d) : i < n ∧ d = .int (i : Nat) := by
 have hi : i < n := by have := (List.getElem?_eq_some_iff.mp h).1; rwa [zs, List.length_map, List.length_range] at this
 rw [zs, List.getElem?_map, List.getElem?_range hi] at h
 exact ⟨hi, (Option.some.inj h).symm.trans (congrArg D.int (Int.zero_add _))⟩
noncomputable def optI : Option Nat → D
 | none => .none
 | some k => .int (k : Nat)
noncomputable abbrev lineOwn (P : Params) (G : Gd) (x : Lx) (td : Addr) (s : Sr) : Own := lexOwn P x [] 0 s.q ++ [(td, .dict G.prog G.w s.f s.k), (x.spb, .list []), (201, pitL)]
theorem line_set {P : Params} {G : Gd} {x : Lx} {td : Addr} {q : List (List Nat)} {f f' : List Nat → Option Nat} {k k' : Nat} : OSet td (.dict G.prog G.w f k) (.dict G.prog G.w f' k') (lineOwn P G x td ⟨q, f, k⟩) (lineOwn P G x td ⟨q, f', k'⟩) := ((((((OSet.head _).tail _).tail _).tail _).tail _).tail _).tail _
theorem line_mem {P : Params} {G : Gd} {x : Lx} {td : Addr} {s : Sr} : (td, OO.dict G.prog G.w s.f s.k) ∈ lineOwn P G x td s := line_set (f' := s.f) (k' := s.k).mem
theorem line_dl {P : Params} {G : Gd} {x : Lx} {td : Addr} {s : Sr} : (x.dl, OO.ns (lexNs 76 1 (.inst 76 x.ds) x.pb)) ∈ lineOwn P G x td s := .tail _ (.tail _ (.tail _ (.head _)))
theorem line_pit {P : Params} {G : Gd} {x : Lx} {td : Addr} {s : Sr} : ((201 : Addr), pitL) ∈ lineOwn P G x td s := by simp
section
variable {P : Params} {G : Gd} (hK : G.K = K02 P)
include hK
set_option maxHeartbeats 4000000
theorem get_any (x : Lx) (q : List (List Nat)) (hq : q.length ≤ 1000) : FnG G 41 (.ref 66) [.inst 76 x.dl] (lexOwn P x [] 0 q) (fun d c' => d = .str (q.headD []) ∧ c' = lexOwn P x [] 0 q.tail) := by
 cases q with
 | nil => exact get_is hK x [] (by decide) 0 [] 1 rfl rfl
 | cons a r => exact pop_is hK x [] 0 a r (by rw [List.length_cons] at hq; omega)
set_option tactic.hygienic true in
open Classical in
theorem forth_is {deck : List Nat} {words : List (List Nat)} (hM : Machine deck words) : FnG G 120 (.ref 256) [.str deck, .list (dstrs words)] [(201, pitL)] (fun d c' => (∃ r, Res deck (stepM deck words) r ∧ d = optI r) ∧ c' = [(201, pitL)]) := by
 refine (fnG_K (n := 119) hK [("deck", .str deck), ("words", .list (dstrs words))] [(201, pitL)] (R := fun d c' => (∃ r, Res deck (stepM deck words) r ∧ d = optI r) ∧ ((201 : Addr), pitL) ∈ c') (R' := fun _ d _ c' => (∃ r, Res deck (stepM deck words) r ∧ d = optI r) ∧ ((201 : Addr), pitL) ∈ c') rfl rfl rfl ?_ rfl rfl rfl rfl rfl rfl rfl rfl ?_ no_cells).own ?_
 rotate_left 2
 ·intro d w y0; refine el02 y0 fun h1 h2 => ?_
  exact ⟨[(201, pitL)], ⟨h1, rfl⟩, fun p hp => List.mem_singleton.mp hp ▸ h2, fun _ => by decide⟩
 ·intro vs hv; refine el21 (len2 hv) fun a b y0 => ?_; subst y0; kernel_rfl
 intro G' hK' _ X L
 have hdl := hM.len
 refine ex_pair_swG (R := fun d₁ d₂ w => ∃ (x : Lx) (td : Addr), d₁ = .inst 76 x.dl ∧ d₂ = own td ∧ w = (td, .dict G'.prog G'.w (putTurn noTurns deck 0) 1) :: (lexOwn P x [] 0 [] ++ [(x.spb, .list []), (201, pitL)])) (by kernel_rfl) (by kernel_rfl) rfl rfl (evG_tup2 rfl rfl (evG_call (c := [(201, pitL)]) (r := []) (f := 206) (ds := [.str []]) ?_ (by rw [hK']; kernel_rfl) (evAll_cons rfl (ev_litE rfl) evAll_nil) rfl ((lexer_is hK' []).le (by decide)) rfl) ?_) ?_
 ·ac_rfl
 ·intro d w y0; refine el12 y0 fun c' y0 => ?_; refine el12 y0 fun x y0 => ?_; subst y0; intro y0; subst y0; intro y0; subst y0
  refine ⟨fun b hb => ?_, (evG_dict1 (l := deck) (v := 0) ?_ ev_int).weaken ?_⟩
  ·have e := List.mem_singleton.mp hb
   subst e
   simp [keysOf]
  ·ac_rfl
  ·intro d w y0; refine el13 y0 fun td _ y0 => ?_; subst y0; intro y0; subst y0
   exact ⟨x, td, rfl, rfl, by rw [List.append_nil]⟩
 intro _ _ _ y0; refine el23 y0 fun x td y0 => ?_; subst y0; intro y0; subst y0; intro y0; subst y0; intro _
 refine ex_own (ow' := lineOwn P G' x td ⟨[], putTurn noTurns deck 0, 1⟩) (osub_mid _ _ _) (keys_mid _ _ _).mpr ?_
 refine ex_exprE rfl rfl (evG_exact (evG_imeth (C := 76) (dx := x.dl) (f := 73) (fs := lexNs 76 1 (.inst 76 x.ds) x.pb) (ds := [.str deck]) (c := lexOwn P x [] 0 []) (r := [(td, .dict G'.prog G'.w (putTurn noTurns deck 0) 1), (x.spb, .list []), (201, pitL)]) rfl ?_ (line_dl (s := ⟨[], putTurn noTurns deck 0, 1⟩)) rfl (by rw [hK']; kernel_rfl) (by rw [hK']; kernel_rfl) (by rw [hK']; kernel_rfl) ?_ rfl ((push_is hK' x [] 0 deck [] (by decide)).le (by decide)))) ?_
 iterate 2 (·ac_rfl)
 refine ex_assignE (by kernel_rfl) rfl (evG_exact (evG_imeth0 (C := 76) (dx := x.dl) (f := 66) (fs := lexNs 76 1 (.inst 76 x.ds) x.pb) (c := lexOwn P x [] 0 [deck]) (r := [(td, .dict G'.prog G'.w (putTurn noTurns deck 0) 1), (x.spb, .list []), (201, pitL)]) rfl ?_ (line_dl (s := ⟨[deck], putTurn noTurns deck 0, 1⟩)) rfl (by rw [hK']; kernel_rfl) (by rw [hK']; kernel_rfl) (by rw [hK']; kernel_rfl) ((get_any hK' x [deck] (Nat.le_of_ble_eq_true rfl)).le (by decide)))) ?_
 ·ac_rfl
 let δ := stepM deck words
 have h2 : 2 ≤ deck.length := by omega
 have hdne : deck ≠ [] := fun z => by rw [z] at hdl; injection hdl
 have hdg : Grp deck deck := ⟨hdne, fun _ => true, (List.filter_eq_self.mpr fun _ _ => rfl).symm⟩
 have hbeg : BfF deck δ [] (putTurn noTurns deck 0) deck 0 0 := by
  refine ⟨fun y hy => ?_, fun y n e => ?_, if_pos rfl, (by intro _ h; cases h), List.Pairwise.nil, fun y n e _ hyg => ?_, fun y h => by cases h⟩
  ·rw [beq_iff_eq.mp hy]; exact fun z => by rw [show putTurn noTurns deck 0 deck = some 0 from if_pos rfl] at z; injection z
  ·unfold putTurn at e
   split at e
   ·rename_i h; (injection e with y0; subst y0); exact ⟨beq_iff_eq.mpr h, fun m z => absurd z (Nat.not_lt_zero m)⟩
   ·injection e
  ·unfold putTurn at e
   rw [if_neg hyg] at e; injection e
 refine ex_while (σ := Sr × List Nat × Nat) (fun b => [("group", .str b.2.1), ("line", .inst 76 x.dl), ("turns", own td), ("deck", .str deck), ("words", .list (dstrs words))]) (fun b => lineOwn P G' x td b.1)
  (fun b => (b.2.1 ≠ [] → Sch deck (forthW deck δ) (fun _ => true) (fun g => g.length == 1) (fun g => g == deck) b.1 b.2.1 b.2.2 0 (b.1.q.length + unk deck b.1.f)) ∧ b.1.q.length + unk deck b.1.f ≤ 40 ∧ (b.2.1 = [] → Res deck δ none))
  (fun b => if b.2.1 = [] then 0 else b.1.q.length + unk deck b.1.f + 1) (fun b => b.2.1 != []) (⟨[], putTurn noTurns deck 0, 1⟩, deck, 0) ⟨fun _ => ⟨hbeg, Nat.le_refl _, ?_, ?_⟩, ?_, fun z => absurd z hdne⟩ ?_ (OSub.refl _) (fun _ => rfl) (fun b hb => ?_) (fun b hb hc => ?_) fun b hb hc => ?_
 ·have := unk_le hdl (putTurn noTurns deck 0)
  show 1 + unk deck (putTurn noTurns deck 0) ≤ 40
  omega
 ·intro y hy; rw [List.mem_singleton.mp hy]; exact hdg
 ·have := unk_le hdl (putTurn noTurns deck 0)
  show 0 + unk deck (putTurn noTurns deck 0) ≤ 40
  omega
 ·walk_at "subs"
  all_goals rfl
 ·refine tst_cmp (n := 111) (d₁ := .str b.2.1) rfl ?_ (ev_litE (l := []) rfl) cmp_ne_str
  ac_rfl
 ·obtain ⟨s, g, t⟩ := b
  have hg : g ≠ [] := bne_iff_ne.mp hc
  refine el03 hb fun hS h40 _ => ?_
  have hS := hS hg
  show Ex G' 119 _ [("group", .str g), ("line", .inst 76 x.dl), ("turns", own td), ("deck", .str deck), ("words", .list (dstrs words))] (lineOwn P G' x td s) _ _
  generalize hM' : s.q.length + unk deck s.f = M at hS h40
  let st := stS (forthW deck δ g) (fun _ => true) t s
  have hgd := (hS.grp g (.head _)).sub
  refine ex_forN (ds := zs 0 3) (by kernel_rfl) (src_of (ev_callT (d := .rng 0 3) ?_ ?_ rfl fn_range1 rfl) (iter_rng rfl))
   (fun i => guardL (Sch deck (forthW deck δ) (fun _ => true) (fun g => g.length == 1) (fun g => g == deck) (st i) g t i M) [("group", .str g), ("line", .inst 76 x.dl), ("turns", own td), ("deck", .str deck), ("words", .list (dstrs words))])
   (fun i => lineOwn P G' x td (st i)) (sub_guard hS (Sub.refl _)) (OSub.refl _) (fun _ => rfl) (fun i d hd Y => ?_) ?_
  iterate 2 (·ac_rfl)
  ·refine el02 (zs_at hd) fun hi y0 => ?_; subst y0
   refine ex_guard (by kernel_rfl) fun hs => ?_
   have hway : (forthW deck δ g)[i]? = some (img deck δ i g) := by rw [forthW, List.getElem?_map, List.getElem?_range hi]; rfl
   have hst : st (i + 1) = stepS true t (st i) (img deck δ i g) := stS_succ hway
   have hgl : g.length ≤ 4 := (hM.group (hS.grp g (.head _))).len
   have hgo : ∀ c ∈ g.map (δ i), c < 0x110000 := fun c hc => by
    refine el12 (List.mem_map.mp hc) fun y hy y0 => ?_; subst y0
    exact hM.small (hM.mem i y (hgd y hy))
   have hal : (img deck δ i g).length ≤ 4 := hdl ▸ List.length_filter_le ..
   refine ex_assign (d := .list (signs (g.map (δ i)))) (by kernel_rfl) rfl (ev_comp (ds := signs g) (ρc := [("words", .list (dstrs words)), ("deck", .str deck), ("letter", .int (i : Nat))]) (out := signs (g.map (δ i))) (src_of ?_ iter_str) (fun _ => rfl) rfl (scopeOk_kind rfl) (scopeOk_names rfl) (scopeOk_cell rfl) ?_ (fun C da => ?_) ?_) ?_
   ·ac_rfl
   ·walk_at "fsubs"
   ·have e : signs (g.map (δ i)) = (signs g).map fun d => D.str [δ i (d.s.headD 0)] := by
     simp only [signs, List.map_map]; rfl
    rw [e]
    refine loops_map _ rfl rfl fun d hd done => ?_
    refine el12 (mem_signs hd) fun c hc y0 => ?_; subst y0
    refine el14 (hM.at (hgd c hc)) fun w hw hw3 _ hwl => ?_
    have hwd : (dstrs words)[((deck.idxOf c : Nat) : Int).toNat]? = some (.str w) := by rw [Int.toNat_natCast, dstrs, List.getElem?_map, hw]; rfl
    have hix : deck.idxOf c < 4 := hdl ▸ List.idxOf_lt_length_of_mem (hgd c hc)
    refine ev_item rfl (ev_item rfl ?_ (ev_sindex rfl rfl ?_ ?_ (idxs_nodup hM.nd (hgd c hc))) (item_list (ds := dstrs words) (by omega) hwd (by omega))) ?_ (itemS (l := w) (hwl i hi) (by omega))
    iterate 4 (·ac_rfl)
   ·exact small (by rw [signs_len, List.length_map]; omega)
   refine ex_assign (d := .str (img deck δ i g)) (by kernel_rfl) rfl (ev_join_signs rfl rfl (ev_litE rfl) (ev_filt (ρc := [("goals", .list (signs (g.map (δ i))))]) (w := deck) (fun c => (g.map (δ i)).contains c) (fun _ => rfl) rfl rfl rfl rfl (by kernel_rfl) (by kernel_rfl) ?_ ?_ (by omega) fun C da done a ha => ?_) (by show (img deck δ i g).length ≤ _; omega)) ?_
   ·walk_at "fsubs"
   ·ac_rfl
   ·refine tst_cmp (n := 111) (d₁ := .str [a]) (d₂ := .list (signs (g.map (δ i)))) rfl ?_ ?_ (cmp_in_signs hgo (hM.small ha))
    ·exact ev_name lk_here (by kernel_rfl) (by kernel_rfl)
    ·ac_rfl
   have hane : img deck δ i g ≠ [] := by
    refine el11 (List.exists_mem_of_ne_nil g hg) fun y hy => ?_
    exact List.ne_nil_of_mem (mem_img.mpr ⟨hM.mem i y (hgd y hy), y, hy, rfl⟩)
   have hq1 : (st i).q.length ≤ 1000 := by have := hs.cap; omega
   have hk1 : (st i).k ≤ 1000 := by have := hs.dic; omega
   refine ex_if_joinE (c := ((st i).f (img deck δ i g)).isNone) [("after", .str (img deck δ i g)), ("group", .str g), ("line", .inst 76 x.dl), ("turns", own td), ("deck", .str deck), ("words", .list (dstrs words))] (lineOwn P G' x td (st (i + 1))) (tst_noturn rfl ?_ ?_ line_mem) ?_ (fun h key => ?_) fun h key => ?_
   iterate 2 (·ac_rfl)
   ·refine ex_if (c := (img deck δ i g).length == 1) (tstE (tst_cmp (n := 111) (d₁ := .int ((img deck δ i g).length : Nat)) (d₂ := .int ((1 : Nat) : Int)) rfl (ev_callB (ds := [.str (img deck δ i g)]) ?_ ?_ rfl (fn_len_str (by omega)) rfl) ev_int cmp_eq_int) (int_beq _ _)) (fun h1 => ?_) fun h1 => ?_
    iterate 2 (·ac_rfl)
    ·refine el12 (step_val (ok := fun _ => true) (t := t) (s := st i) (a := img deck δ i g) rfl) fun k hk hv => ?_
     refine ex_ret (d := .int (k : Nat)) (ev_turn rfl ?_ ?_ line_mem (hst ▸ hk)) ⟨⟨some k, forth_found hM.mem hM.nd h2 hs.bf (List.mem_of_getElem? hway) (beq_iff_eq.mp h1) hv, rfl⟩, line_pit⟩
     iterate 2 (·ac_rfl)
    ·refine ex_nil (ex_nil (ex_turn_end (sub_guard (hst ▸ hs.step hway (p := fun x => (g.map (δ i)).contains x) rfl (fun _ => hane) h1) ?_) (OSub.refl _)))
     walk_at "subs"
   ·have hf := Option.isNone_iff_eq_none.mp h
    have e : st (i + 1) = ⟨(st i).q ++ [img deck δ i g], putTurn (st i).f (img deck δ i g) (t + 1), (st i).k + 1⟩ := hst.trans (if_pos (by rw [hf]; rfl))
    refine ex_setturn (v := t + 1) (ow' := lineOwn P G' x td ⟨(st i).q, putTurn (st i).f (img deck δ i g) (t + 1), (st i).k + 1⟩) rfl (ev_eq (d' := .int ((t : Nat) + 1)) (ev_binop (ev_turn rfl ?_ ?_ line_mem hs.bf.cur) ev_int bin_add) rfl) ?_ ?_ hf line_set hk1 ?_
    iterate 4 (·ac_rfl)
    refine ex_exprE rfl rfl (evG_exact (evG_imeth (C := 76) (dx := x.dl) (f := 73) (fs := lexNs 76 1 (.inst 76 x.ds) x.pb) (ds := [.str (img deck δ i g)]) (c := lexOwn P x [] 0 (st i).q) (r := [(td, .dict G'.prog G'.w (putTurn (st i).f (img deck δ i g) (t + 1)) ((st i).k + 1)), (x.spb, .list []), (201, pitL)]) rfl ?_ (line_dl (s := ⟨(st i).q, putTurn (st i).f (img deck δ i g) (t + 1), (st i).k + 1⟩)) rfl (by rw [hK']; kernel_rfl) (by rw [hK']; kernel_rfl) (by rw [hK']; kernel_rfl) ?_ rfl ((push_is hK' x [] 0 (img deck δ i g) (st i).q hq1).le (by decide)))) ?_
    iterate 2 (·ac_rfl)
    refine ex_nil (key _ _ ?_ (by rw [e]))
    walk_at "subs"
   ·refine ex_nil (key _ _ ?_ (by rw [hst]; unfold stepS; rw [h]; rfl))
    walk_at "subs"
  ·refine ex_guard0 fun hs => ?_
   replace hs : Sch deck (forthW deck δ) (fun _ => true) (fun g => g.length == 1) (fun g => g == deck) (st 3) g t 3 M := hs
   have hq1 : (st 3).q.length ≤ 1000 := by have := hs.cap; omega
   have hc3 := hs.cap
   refine ex_assignE (by kernel_rfl) rfl (evG_exact (evG_imeth0 (C := 76) (dx := x.dl) (f := 66) (fs := lexNs 76 1 (.inst 76 x.ds) x.pb) (c := lexOwn P x [] 0 (st 3).q) (r := [(td, .dict G'.prog G'.w (st 3).f (st 3).k), (x.spb, .list []), (201, pitL)]) rfl ?_ line_dl rfl (by rw [hK']; kernel_rfl) (by rw [hK']; kernel_rfl) (by rw [hK']; kernel_rfl) ((get_any hK' x (st 3).q hq1).le (by decide)))) ?_
   ·ac_rfl
   cases hq : (st 3).q with
   | nil =>
    have hbf := hs.bf
    rw [hq] at hbf
    refine ex_nil (ex_end ⟨(⟨[], (st 3).f, (st 3).k⟩, [], t), ⟨fun z => absurd rfl z, ?_, fun _ => forth_over hM.mem hM.nd h2 hbf⟩, ?_, ?_, OSub.refl _⟩)
    ·show 0 + unk deck (st 3).f ≤ 40
     omega
    ·show 0 < (if g = [] then 0 else _)
     rw [if_neg hg]; exact Nat.succ_pos _
    ·walk_at "subs"
     all_goals rfl
   | cons g' r =>
    refine el12 (hs.next (Nat.le_refl 3) hq) fun t' hn hm => ?_
    refine ex_nil (ex_end ⟨(⟨r, (st 3).f, (st 3).k⟩, g', t'), ⟨fun _ => hn, ?_, fun z => absurd z (hn.grp g' (.head _)).1⟩, ?_, ?_, OSub.refl _⟩)
    ·show r.length + unk deck (st 3).f ≤ 40
     omega
    ·show (if g' = [] then 0 else r.length + unk deck (st 3).f + 1) < (if g = [] then 0 else M + 1)
     rw [if_neg hg, if_neg (hn.grp g' (.head _)).1]; omega
    ·walk_at "subs"
     all_goals rfl
 ·have hnil : b.2.1 = [] := by simpa using hc
  exact ex_ret (d := .none) ev_none ⟨⟨none, hb.2.2 hnil, rfl⟩, line_pit⟩
end
theorem zip_aux (F : Nat → List Nat) (l : Nat) (g : List Nat) : ∀ deck : List Nat, ((zipped (signs deck) (dstrs (deck.map F))).flatMap fun d => if decide (d.snd.s.getD l 0 ∈ g) = true then [d.fst] else []) = signs (deck.filter fun x => g.contains ((F x).getD l 0))
 | [] => rfl
 | a :: r => by
  have ih := zip_aux F l g r
  show (if decide ((F a).getD l 0 ∈ g) = true then [D.str [a]] else []) ++ _ = _
  refine (congrArg _ ih).trans ?_
  have e : g.contains ((F a).getD l 0) = decide ((F a).getD l 0 ∈ g) := by rw [Bool.eq_iff_iff, List.contains_iff_mem, decide_eq_true_iff]
  rw [List.filter_cons, e]
  split <;> rfl
section
variable {deck : List Nat} {words : List (List Nat)} (hM : Machine deck words)
include hM
theorem idx_at {i : Nat} (hi : i < 4) : deck.idxOf (deck.getD i 0) = i := by
 have hx := deck_mem hM.len hi
 exact getD_inj hM.mem hM.nd hM.len (idx_lt hM.len hx) hi (get_idx hM.len hx)
theorem words_map : words = deck.map fun x => words.getD (deck.idxOf x) [] := by
 refine List.ext_getElem (by rw [List.length_map, hM.wlen, hM.len]) fun i h1 h2 => ?_
 have hi : i < 4 := hM.wlen ▸ h1
 have e : deck.getD i 0 = deck[i]'(by rw [hM.len]; exact hi) := by rw [List.getD_eq_getElem?_getD, List.getElem?_eq_getElem (by rw [hM.len]; exact hi)]; rfl
 have h := idx_at hM hi
 rw [e] at h
 rw [List.getElem_map, h, List.getD_eq_getElem?_getD, List.getElem?_eq_getElem h1]; rfl
theorem zip_pre {l : Nat} (hl : l < 3) (g : List Nat) : ((zipped (signs deck) (dstrs words)).flatMap fun d => if decide (d.snd.s.getD l 0 ∈ g) = true then [d.fst] else []) = signs (pre deck (stepM deck words) l g) := by
 have h := zip_aux (fun x => words.getD (deck.idxOf x) []) l g deck
 rw [← words_map hM] at h
 rw [h]
 unfold pre stepM
 rw [Nat.mod_eq_of_lt hl]
theorem filter_one {d : Nat} (hd : d ∈ deck) : deck.filter (fun x => x == d) = [d] := by
 rw [List.filter_beq, List.Nodup.count hM.nd, if_pos hd]; rfl
end
noncomputable def begS (deck : List Nat) (i : Nat) : Sr := ⟨(deck.take i).map fun c => [c], fun x => if x ∈ (deck.take i).map (fun c => [c]) then some 0 else none, i⟩
theorem beg_step {deck : List Nat} (hn : deck.Nodup) {i c : Nat} (h : deck[i]? = some c) : (begS deck i).f [c] = none ∧ begS deck (i + 1) = ⟨(begS deck i).q ++ [[c]], putTurn (begS deck i).f [c] 0, i + 1⟩ := by
 have ht : deck.take (i + 1) = deck.take i ++ [c] := by rw [List.take_add_one, h]; rfl
 have hc : c ∉ deck.take i := fun z => by
  have := hn.sublist (List.take_sublist (i + 1) deck)
  rw [ht] at this
  exact (List.nodup_append.mp this).2.2 c z c (.head _) rfl
 have hc2 : [c] ∉ (deck.take i).map fun c => [c] := fun z => by
  refine el12 (List.mem_map.mp z) fun a ha e => ?_
  (injection e with y0 y1; subst y0; cases y1); exact hc ha
 refine ⟨if_neg hc2, ?_⟩
 unfold begS
 rw [ht, List.map_append]
 refine congrArg (fun f => Sr.mk _ f _) (funext fun x => ?_)
 unfold putTurn
 by_cases e : x = [c]
 ·rw [if_pos e, if_pos (List.mem_append.mpr (.inr (by rw [e]; exact .head _)))]
 ·rw [if_neg e]
  by_cases z : x ∈ (deck.take i).map fun c => [c]
  ·exact (if_pos (List.mem_append.mpr (.inl z))).trans (if_pos z).symm
  ·exact (if_neg fun y => (List.mem_append.mp y).elim z fun y => e (List.mem_singleton.mp y)).trans (if_neg z).symm
theorem pw_all {α : Type} {R : α → α → Prop} (h : ∀ x y, R x y) : ∀ l : List α, l.Pairwise R
 | [] => .nil
 | a :: r => .cons (fun b _ => h a b) (pw_all h r)
set_option tactic.hygienic true in
theorem beg_sch {deck : List Nat} {words : List (List Nat)} (hM : Machine deck words) {g : List Nat} {q : List (List Nat)} (hq : (begS deck 4).q = g :: q) : Sch deck (backW deck (stepM deck words)) (fun g => !g.isEmpty) (fun g => g == deck) (fun g => deck.any fun d => g == [d]) ⟨q, (begS deck 4).f, 4⟩ g 0 0 (q.length + unk deck (begS deck 4).f) ∧ q.length = 3 := by
 have hall : deck.take 4 = deck := List.take_of_length_le (Nat.le_of_eq hM.len)
 have hq' : deck.map (fun c => [c]) = g :: q := by rw [← hall]; exact hq
 have hf : ∀ x, (begS deck 4).f x = if x ∈ g :: q then some 0 else none := fun x => by
  show (if x ∈ (deck.take 4).map (fun c => [c]) then some 0 else none) = _
  rw [hall, hq']
 have hz : ∀ x n, (begS deck 4).f x = some n → x ∈ g :: q ∧ n = 0 := fun x n e => by
  rw [hf] at e
  split at e
  ·rename_i h; exact ⟨h, (Option.some.inj e).symm⟩
  ·injection e
 have hone : ∀ x, x ∈ g :: q ↔ ∃ d ∈ deck, x = [d] := fun x => by
  rw [← hq', List.mem_map]
  exact ⟨fun ⟨d, a, b⟩ => ⟨d, a, b.symm⟩, fun ⟨d, a, b⟩ => ⟨d, a, b.symm⟩⟩
 have hl : q.length = 3 := by have := congrArg List.length hq'; rw [List.length_map, hM.len, List.length_cons] at this; omega
 refine ⟨⟨⟨fun x hx => ?_, fun x n e => ?_, (hf g).trans (if_pos (.head _)), fun x hx => ⟨0, (hf x).trans (if_pos (.tail _ hx)), Nat.le_refl _, Nat.zero_le _⟩, pw_all (fun x y n m e1 e2 => by rw [(hz x n e1).2]; exact Nat.zero_le _) _, fun x n e h1 h2 => ?_, fun y h => by cases h⟩, Nat.le_refl _, ?_, fun x hx => ?_⟩, hl⟩
 ·refine el12 (List.any_eq_true.mp hx) fun d hd e => ?_
  rw [hf, if_pos ((hone x).mpr ⟨d, hd, beq_iff_eq.mp e⟩)]
  exact Option.some_ne_none _
 ·refine el02 (hz x n e) fun h1 y0 => ?_; subst y0
  refine el12 ((hone x).mp h1) fun d hd h2 => ?_
  exact ⟨List.any_eq_true.mpr ⟨d, hd, beq_iff_eq.mpr h2⟩, fun m z => absurd z (Nat.not_lt_zero m)⟩
 ·refine Or.elim (List.mem_cons.mp (hz x n e).1) (fun z => ?_) (fun z => ?_)
  ·exact absurd z h2
  ·exact absurd z h1
 ·have := unk_le hM.len (begS deck 4).f
  show 4 + _ ≤ 40
  omega
 ·refine el12 ((hone x).mp hx) fun d hd y0 => ?_; subst y0
  exact ⟨List.cons_ne_nil _ _, fun x => x == d, (filter_one hM hd).symm⟩
theorem osub_front (x : Addr × OO) (A B : Own) : OSub (x :: (A ++ B)) (A ++ x :: B) := fun p hp => List.perm_middle.mem_iff.mpr hp
noncomputable abbrev lineB (P : Params) (G : Gd) (x : Lx) (td : Addr) (s : Sr) : Own := lexOwn P x [] 0 s.q ++ [(td, .dict G.prog G.w s.f s.k), (x.spb, .list []), (201, pitL), (187, pit)]
theorem lineB_set {P : Params} {G : Gd} {x : Lx} {td : Addr} {q : List (List Nat)} {f f' : List Nat → Option Nat} {k k' : Nat} : OSet td (.dict G.prog G.w f k) (.dict G.prog G.w f' k') (lineB P G x td ⟨q, f, k⟩) (lineB P G x td ⟨q, f', k'⟩) := ((((((OSet.head _).tail _).tail _).tail _).tail _).tail _).tail _
theorem lineB_mem {P : Params} {G : Gd} {x : Lx} {td : Addr} {s : Sr} : (td, OO.dict G.prog G.w s.f s.k) ∈ lineB P G x td s := lineB_set (f' := s.f) (k' := s.k).mem
theorem lineB_dl {P : Params} {G : Gd} {x : Lx} {td : Addr} {s : Sr} : (x.dl, OO.ns (lexNs 76 1 (.inst 76 x.ds) x.pb)) ∈ lineB P G x td s := .tail _ (.tail _ (.tail _ (.head _)))
theorem lineB_pit {P : Params} {G : Gd} {x : Lx} {td : Addr} {s : Sr} : ((201 : Addr), pitL) ∈ lineB P G x td s ∧ ((187 : Addr), pit) ∈ lineB P G x td s := by simp
theorem atoms_its (ps : List Place) : (atomsOf ps).map (·.2) = (ps.map (·.it)).map optD := by
 unfold atomsOf
 rw [List.map_map, List.map_map]; rfl
theorem row_len {l : Nat} (hl : l < 3) (g : List Nat) : (rowP l g).length = 3 := by
 unfold rowP
 rw [List.length_append, List.length_cons, List.length_replicate, List.length_replicate]; omega
section
variable {P : Params} {G : Gd} (hK : G.K = K02 P)
include hK
set_option maxHeartbeats 4000000
open Classical in
theorem back_is {deck : List Nat} {words : List (List Nat)} (hM : Machine deck words) : FnG G 120 (.ref 261) [.str deck, .list (dstrs words)] [(201, pitL), (187, pit)] (fun d c' => (∃ r, Res deck (stepM deck words) r ∧ d = optI r) ∧ c' = [(201, pitL), (187, pit)]) := by
 refine (fnG_K (n := 119) hK [("deck", .str deck), ("words", .list (dstrs words))] [(201, pitL), (187, pit)] (R := fun d c' => (∃ r, Res deck (stepM deck words) r ∧ d = optI r) ∧ ((201 : Addr), pitL) ∈ c' ∧ ((187 : Addr), pit) ∈ c') (R' := fun _ d _ c' => (∃ r, Res deck (stepM deck words) r ∧ d = optI r) ∧ ((201 : Addr), pitL) ∈ c' ∧ ((187 : Addr), pit) ∈ c') rfl rfl rfl ?_ rfl rfl rfl rfl rfl rfl rfl rfl ?_ no_cells).own ?_
 rotate_left 2
 ·intro d w y0; refine el03 y0 fun h1 h2 h3 => ?_
  refine ⟨[(201, pitL), (187, pit)], ⟨h1, rfl⟩, fun p hp => ?_, fun _ => by decide⟩
  refine Or.elim (List.mem_cons.mp hp) (fun e => ?_) (fun hp => ?_)
  ·exact e ▸ h2
  ·exact List.mem_singleton.mp hp ▸ h3
 ·intro vs hv; refine el21 (len2 hv) fun a b y0 => ?_; subst y0; kernel_rfl
 intro G' hK' _ X L
 have hdl := hM.len
 refine ex_pair_swG (R := fun d₁ d₂ w => ∃ (x : Lx) (td : Addr), d₁ = .inst 76 x.dl ∧ d₂ = own td ∧ w = (td, .dict G'.prog G'.w noTurns 0) :: (lexOwn P x [] 0 [] ++ [(x.spb, .list []), (201, pitL), (187, pit)])) (by kernel_rfl) (by kernel_rfl) rfl rfl (evG_tup2 rfl rfl (evG_call (c := [(201, pitL)]) (r := [(187, pit)]) (f := 206) (ds := [.str []]) ?_ (by rw [hK']; kernel_rfl) (evAll_cons rfl (ev_litE rfl) evAll_nil) rfl ((lexer_is hK' []).le (by decide)) rfl) ?_) ?_
 ·ac_rfl
 ·intro d w y0; refine el12 y0 fun c' y0 => ?_; refine el12 y0 fun x y0 => ?_; subst y0; intro y0; subst y0; intro y0; subst y0
  refine ⟨fun b hb => ?_, evG_newdict.weaken ?_⟩
  ·have e : b = 201 ∨ b = 187 := by
    refine Or.elim (List.mem_cons.mp hb) (fun e => ?_) (fun hb => ?_)
    ·exact .inl e
    ·exact .inr (List.mem_singleton.mp hb)
   focus (refine Or.elim e (fun y0 => ?_) (fun y0 => ?_); subst y0; rotate_left; subst y0; rotate_left) <;> simp [keysOf]
  ·intro d w y0; refine el13 y0 fun td _ y0 => ?_; subst y0; intro y0; subst y0
   exact ⟨x, td, rfl, rfl, by rw [List.append_assoc]; rfl⟩
 intro _ _ _ y0; refine el23 y0 fun x td y0 => ?_; subst y0; intro y0; subst y0; intro y0; subst y0; intro _
 refine ex_own (ow' := lineB P G' x td (begS deck 0)) (osub_mid _ _ _) (keys_mid _ _ _).mpr ?_
 refine ex_forN (ds := signs deck) (by kernel_rfl) (src_of ?_ iter_str) (fun i => [("line", .inst 76 x.dl), ("turns", own td), ("deck", .str deck), ("words", .list (dstrs words))]) (fun i => lineB P G' x td (begS deck i)) (Sub.refl _) (OSub.refl _) (fun _ => rfl) (fun i d hd Y => ?_) ?_
 ·ac_rfl
 ·refine el12 ((by
   rw [signs, List.getElem?_map] at hd
   cases e : deck[i]? with
   | none => rw [e] at hd; cases hd
   | some c => rw [e] at hd; exact ⟨c, rfl, (Option.some.inj hd).symm⟩) : ∃ c, deck[i]? = some c ∧ d = .str [c]) fun c hc y0 => ?_; subst y0
  have hi : i < 4 := hdl ▸ (List.getElem?_eq_some_iff.mp hc).1
  refine el02 (beg_step hM.nd hc) fun hf hst => ?_
  have hq1 : (begS deck i).q.length ≤ 1000 := by
   show ((deck.take i).map _).length ≤ _
   rw [List.length_map]; exact Nat.le_trans (List.length_take_le ..) (by omega)
  refine ex_setturn (v := 0) (ow' := lineB P G' x td ⟨(begS deck i).q, putTurn (begS deck i).f [c] 0, i + 1⟩) rfl ev_int ?_ ?_ hf lineB_set (show i ≤ 1000 by omega) ?_
  iterate 2 (·ac_rfl)
  refine ex_exprE rfl rfl (evG_exact (evG_imeth (C := 76) (dx := x.dl) (f := 73) (fs := lexNs 76 1 (.inst 76 x.ds) x.pb) (ds := [.str [c]]) (c := lexOwn P x [] 0 (begS deck i).q) (r := [(td, .dict G'.prog G'.w (putTurn (begS deck i).f [c] 0) (i + 1)), (x.spb, .list []), (201, pitL), (187, pit)]) rfl ?_ (lineB_dl (s := ⟨(begS deck i).q, putTurn (begS deck i).f [c] 0, i + 1⟩)) rfl (by rw [hK']; kernel_rfl) (by rw [hK']; kernel_rfl) (by rw [hK']; kernel_rfl) ?_ rfl ((push_is hK' x [] 0 [c] (begS deck i).q hq1).le (by decide)))) ?_
  iterate 2 (·ac_rfl)
  refine ex_nil (ex_turn_end ?_ (by rw [hst]; exact OSub.refl _))
  walk_at "subs"
 rw [signs_len, hdl]
 refine el21 ((by
  cases h : (begS deck 4).q with
  | nil =>
   have := congrArg List.length h
   rw [show (begS deck 4).q = (deck.take 4).map fun c => [c] from rfl, List.length_map, List.length_take, hdl] at this
   cases this
  | cons g q => exact ⟨g, q, rfl⟩) : ∃ g q, (begS deck 4).q = g :: q) fun g₀ q₀ hq₀ => ?_
 refine el02 (beg_sch hM hq₀) fun hS₀ hl₀ => ?_
 refine ex_assignE (by kernel_rfl) rfl (evG_exact (evG_imeth0 (C := 76) (dx := x.dl) (f := 66) (fs := lexNs 76 1 (.inst 76 x.ds) x.pb) (c := lexOwn P x [] 0 (begS deck 4).q) (r := [(td, .dict G'.prog G'.w (begS deck 4).f 4), (x.spb, .list []), (201, pitL), (187, pit)]) rfl ?_ (lineB_dl (s := begS deck 4)) rfl (by rw [hK']; kernel_rfl) (by rw [hK']; kernel_rfl) (by rw [hK']; kernel_rfl) ((get_any hK' x (begS deck 4).q (by rw [hq₀, List.length_cons, hl₀]; decide)).le (by decide)))) ?_
 ·ac_rfl
 rw [hq₀]
 let δ := stepM deck words
 have h2 : 2 ≤ deck.length := by omega
 let W := backW deck δ
 let ok : List Nat → Bool := fun g => !g.isEmpty
 have hu₀ := unk_le hdl (begS deck 4).f
 refine ex_while (σ := Sr × List Nat × Nat) (fun b => [("group", .str b.2.1), ("line", .inst 76 x.dl), ("turns", own td), ("deck", .str deck), ("words", .list (dstrs words))]) (fun b => lineB P G' x td b.1)
  (fun b => (b.2.1 ≠ [] → Sch deck W ok (fun g => g == deck) (fun g => deck.any fun d => g == [d]) b.1 b.2.1 b.2.2 0 (b.1.q.length + unk deck b.1.f)) ∧ b.1.q.length + unk deck b.1.f ≤ 40 ∧ (b.2.1 = [] → Res deck δ none))
  (fun b => if b.2.1 = [] then 0 else b.1.q.length + unk deck b.1.f + 1) (fun b => b.2.1 != []) (⟨q₀, (begS deck 4).f, 4⟩, g₀, 0) ⟨fun _ => hS₀, (show q₀.length + unk deck (begS deck 4).f ≤ 40 by omega), fun z => absurd z (hS₀.grp g₀ (.head _)).1⟩ ?_ (OSub.refl _) (fun _ => rfl) (fun b hb => ?_) (fun b hb hc => ?_) fun b hb hc => ?_
 ·walk_at "subs"
  all_goals rfl
 ·refine tst_cmp (n := 111) (d₁ := .str b.2.1) rfl ?_ (ev_litE (l := []) rfl) cmp_ne_str
  ac_rfl
 ·obtain ⟨s, g, t⟩ := b
  have hg : g ≠ [] := bne_iff_ne.mp hc
  refine el03 hb fun hS h40 _ => ?_
  have hS := hS hg
  show Ex G' 119 _ [("group", .str g), ("line", .inst 76 x.dl), ("turns", own td), ("deck", .str deck), ("words", .list (dstrs words))] (lineB P G' x td s) _ _
  generalize hM' : s.q.length + unk deck s.f = M at hS h40
  let st := stS (W g) ok t s
  have hgo := hM.group (hS.grp g (.head _))
  have hgl := hgo.len
  refine ex_assign (d := .str (itemF g)) (by kernel_rfl) rfl (ev_call (f := 230) (ds := [.str g]) ?_ (by rw [hK']; kernel_rfl) ?_ rfl ((item_is hK' g hg (by omega)).le (by decide)) rfl) ?_
  iterate 2 (·ac_rfl)
  have hil := item_len g
  refine ex_forN (ds := zs 0 3) (by kernel_rfl) (src_of (ev_callT (d := .rng 0 3) ?_ ?_ rfl fn_range1 rfl) (iter_rng rfl))
   (fun i => guardL (Sch deck W ok (fun g => g == deck) (fun g => deck.any fun d => g == [d]) (st i) g t i M) [("item", .str (itemF g)), ("group", .str g), ("line", .inst 76 x.dl), ("turns", own td), ("deck", .str deck), ("words", .list (dstrs words))])
   (fun i => lineB P G' x td (st i)) (sub_guard hS ?_) (OSub.refl _) (fun _ => rfl) (fun i d hd Y => ?_) ?_
  iterate 2 (·ac_rfl)
  ·walk_at "subs"
  ·refine el02 (zs_at hd) fun hi y0 => ?_; subst y0
   refine ex_guard (by kernel_rfl) fun hs => ?_
   have hway : (W g)[i]? = some (pre deck δ i g) := by show (backW deck δ g)[i]? = _; rw [backW, List.getElem?_map, List.getElem?_range hi]; rfl
   have hst : st (i + 1) = stepS (ok (pre deck δ i g)) t (st i) (pre deck δ i g) := stS_succ hway
   have hal : (pre deck δ i g).length ≤ 4 := hdl ▸ List.length_filter_le ..
   have hi2 : ((2 : Int) - (i : Int)).toNat = 2 - i := by omega
   refine ex_own (ow' := ((187 : Addr), pit) :: (lexOwn P x [] 0 (st i).q ++ [(td, .dict G'.prog G'.w (st i).f (st i).k), (x.spb, .list []), (201, pitL)])) (osub_front _ (lexOwn P x [] 0 (st i).q ++ [(td, .dict G'.prog G'.w (st i).f (st i).k), (x.spb, .list []), (201, pitL)]) []) (keys_mid _ (lexOwn P x [] 0 (st i).q ++ [(td, .dict G'.prog G'.w (st i).f (st i).k), (x.spb, .list []), (201, pitL)]) []).mp ?_
   refine ex_assignG (R := fun d w => d = .list (((rowP i g).map (·.it)).map optD) ∧ w = ((187 : Addr), pit) :: (lexOwn P x [] 0 (st i).q ++ [(td, .dict G'.prog G'.w (st i).f (st i).k), (x.spb, .list []), (201, pitL)])) (by kernel_rfl) rfl (evG_around (f := 244) ?_ (by rw [hK']; kernel_rfl) (evG_call (f := 173) (ds := [.str (textP (patsOf (rowP i g)))]) (c := [((187 : Addr), pit)]) (r := lexOwn P x [] 0 (st i).q ++ [(td, .dict G'.prog G'.w (st i).f (st i).k), (x.spb, .list []), (201, pitL)]) ?_ (by rw [hK']; kernel_rfl) (evAll_cons rfl (ev_eq (d' := .str (List.replicate i 63 ++ itemF g ++ List.replicate (2 - i) 63)) (ev_binop (ev_binop (ev_binop (ev_litE (l := [63]) rfl) ?_ (bin_mul_str (i := (i : Int)) (by omega))) ?_ (bin_cat' ?_)) (ev_binop (ev_litE (l := [63]) rfl) (ev_binop ev_int ?_ bin_sub) (hi2 ▸ bin_mul_str (i := 2 - (i : Int)) (by omega))) (bin_cat' ?_)) ?_) evAll_nil) rfl ((translate_is hK' (patsOf (rowP i g)) ?_ ?_).le (by decide)) rfl) rfl ?_ rfl) ?_
   iterate 4 (·ac_rfl)
   ·rw [List.length_replicate]; omega
   ·ac_rfl
   ·rw [List.length_append, List.length_replicate, List.length_replicate]; omega
   ·rw [row_text hi, List.append_assoc]
   ·intro a ha
    refine el12 (List.mem_map.mp ha) fun p hp y0 => ?_; subst y0
    exact (rowP_ok hgo p hp).pat
   ·rw [patsOf, List.length_map, row_len hi]; decide
   ·intro d₁ w y0; refine el12 y0 fun c' y0 => ?_; refine el02 y0 fun y0 => ?_; subst y0; intro y0; subst y0; intro y0; subst y0
    refine ⟨_, (atoms_its _ ▸ glue_piece (rowP i g) ▸ items_is hK' (atomsOf (rowP i g)) (fun a ha => ?_) ?_).le (by decide), rfl, rfl⟩
    ·refine el12 (List.mem_map.mp ha) fun p hp y0 => ?_; subst y0
     exact (rowP_ok hgo p hp).atom
    ·rw [atomsOf, List.length_map, row_len hi]; decide
   intro _ _ y0; refine el02 y0 fun y0 => ?_; subst y0; intro y0; subst y0; intro _
   refine ex_own (ow' := lineB P G' x td (st i)) (osub_mid _ (lexOwn P x [] 0 (st i).q ++ [(td, .dict G'.prog G'.w (st i).f (st i).k), (x.spb, .list []), (201, pitL)]) []) (keys_mid _ (lexOwn P x [] 0 (st i).q ++ [(td, .dict G'.prog G'.w (st i).f (st i).k), (x.spb, .list []), (201, pitL)]) []).mpr ?_
   refine ex_assign (d := .str (pre deck δ i g)) (by kernel_rfl) rfl (ev_join_signs rfl rfl (ev_litE rfl) (ev_comp (ds := zipped (signs deck) (dstrs words)) (ρc := [("items", .list (((rowP i g).map (·.it)).map optD))]) (out := signs (pre deck δ i g)) (src_mk rfl rfl ?_ ?_ (mk_zip side_str side_list)) (fun _ => rfl) rfl (scopeOk_kind rfl) (scopeOk_names rfl) (scopeOk_cell rfl) ?_ (fun C da => ?_) (small (by rw [signs_len]; omega))) (by omega)) ?_
   iterate 2 (·ac_rfl)
   ·walk_at "fsubs"
   ·rw [← zip_pre hM hi g]
    refine loops_pfilter (fun d => decide (d.snd.s.getD i 0 ∈ g)) D.fst D.snd D.fst rfl rfl rfl rfl (fun d hd => ?_) (fun d hd done => ?_) fun d hd _ done => ?_
    ·obtain ⟨u, _, v, _, rfl⟩ := mem_zipped hd; exact unp_tup
    ·obtain ⟨u, hu, v, hv, rfl⟩ := mem_zipped hd
     refine el12 (mem_dstrs hv) fun w hw y0 => ?_; subst y0
     have hw3 := (hM.word w hw).1
     show Tst _ _ _ [("word", .str w), ("name", u), ("items", .list (((rowP i g).map (·.it)).map optD))] _ _ (decide (w.getD i 0 ∈ g))
     rw [← row_fits hi g w hw3]
     refine tst_plain rfl (ev_call (f := 251) (ds := [.list (((rowP i g).map (·.it)).map optD), .str w]) ?_ (by rw [hK']; kernel_rfl) ?_ rfl ((fits_is hK' ((rowP i g).map (·.it)) w (by rw [List.length_map, row_len hi, hw3]) (by omega)).le (by decide)) rfl) truth_bool
     iterate 2 (·ac_rfl)
    ·obtain ⟨u, hu, v, hv, rfl⟩ := mem_zipped hd
     show Ev _ _ _ [("word", v), ("name", u), ("items", .list (((rowP i g).map (·.it)).map optD))] _ _ u
     ac_rfl
   have hmem := List.mem_of_getElem? hway
   generalize hA : pre deck δ i g = A at *
   have hq1 : (st i).q.length ≤ 1000 := by have := hs.cap; omega
   have hk1 : (st i).k ≤ 1000 := by have := hs.dic; omega
   refine ex_if_joinE (c := ok A && ((st i).f A).isNone) [("before", .str A), ("item", .str (itemF g)), ("group", .str g), ("line", .inst 76 x.dl), ("turns", own td), ("deck", .str deck), ("words", .list (dstrs words))] (lineB P G' x td (st (i + 1))) (tstE (tst_and (tst_cmp (n := 111) (d₁ := .str A) rfl ?_ (ev_litE (l := []) rfl) cmp_ne_str) fun _ => tst_and (tst_noturn (l := A) rfl ?_ ?_ lineB_mem) fun _ => tst_and_nil) ?_) ?_ (fun h key => ?_) fun h key => ?_
   iterate 3 (·ac_rfl)
   ·rw [Bool.and_true]
    refine congrArg (· && _) ?_
    cases A <;> rfl
   ·refine ex_if (c := A == deck) (tst_cmp (n := 111) (d₁ := .str A) (d₂ := .str deck) rfl ?_ ?_ cmp_eq_str) (fun h1 => ?_) fun h1 => ?_
    iterate 2 (·ac_rfl)
    ·have hAd : A = deck := beq_iff_eq.mp h1
     have hok : ok A = true := by
      show (!A.isEmpty) = true
      rw [hAd]
      cases hdk : deck with
      | nil => rw [hdk] at hdl; injection hdl
      | cons a r => rfl
     refine el12 (step_val (ok := ok) (t := t) (s := st i) (a := A) hok) fun k hk hv => ?_
     refine ex_ret (d := .int (k : Nat)) (ev_turn rfl ?_ ?_ lineB_mem (hst ▸ hk)) ⟨⟨some k, back_found hM.mem hM.nd h2 hs.bf (Eq.subst (motive := fun z => z ∈ W g) hAd hmem) (Eq.subst (motive := fun z => ((st i).f z = none ∧ k = t + 1) ∨ (st i).f z = some k) hAd hv), rfl⟩, lineB_pit⟩
     iterate 2 (·ac_rfl)
    ·refine ex_nil (ex_nil (ex_turn_end (sub_guard (hst ▸ hs.step hway (p := fun x => g.contains (δ i x)) hA.symm (fun z e => (by rw [e] at z; injection z)) h1) ?_) (OSub.refl _)))
     walk_at "subs"
   ·refine el02 (Bool.and_eq_true_iff.mp h) fun ho hf => ?_
    have hf := Option.isNone_iff_eq_none.mp hf
    have e : st (i + 1) = ⟨(st i).q ++ [A], putTurn (st i).f A (t + 1), (st i).k + 1⟩ := hst.trans (if_pos h)
    refine ex_setturn (v := t + 1) (ow' := lineB P G' x td ⟨(st i).q, putTurn (st i).f A (t + 1), (st i).k + 1⟩) rfl (ev_eq (d' := .int ((t : Nat) + 1)) (ev_binop (ev_turn rfl ?_ ?_ lineB_mem hs.bf.cur) ev_int bin_add) rfl) ?_ ?_ hf lineB_set hk1 ?_
    iterate 4 (·ac_rfl)
    refine ex_exprE rfl rfl (evG_exact (evG_imeth (C := 76) (dx := x.dl) (f := 73) (fs := lexNs 76 1 (.inst 76 x.ds) x.pb) (ds := [.str A]) (c := lexOwn P x [] 0 (st i).q) (r := [(td, .dict G'.prog G'.w (putTurn (st i).f A (t + 1)) ((st i).k + 1)), (x.spb, .list []), (201, pitL), (187, pit)]) rfl ?_ (lineB_dl (s := ⟨(st i).q, putTurn (st i).f A (t + 1), (st i).k + 1⟩)) rfl (by rw [hK']; kernel_rfl) (by rw [hK']; kernel_rfl) (by rw [hK']; kernel_rfl) ?_ rfl ((push_is hK' x [] 0 A (st i).q hq1).le (by decide)))) ?_
    iterate 2 (·ac_rfl)
    refine ex_nil (key _ _ ?_ (by rw [e]))
    walk_at "subs"
   ·refine ex_nil (key _ _ ?_ (by rw [hst]; unfold stepS; rw [h]; rfl))
    walk_at "subs"
  ·refine ex_guard0 fun hs => ?_
   replace hs : Sch deck W ok (fun g => g == deck) (fun g => deck.any fun d => g == [d]) (st 3) g t 3 M := hs
   have hq1 : (st 3).q.length ≤ 1000 := by have := hs.cap; omega
   have hc3 := hs.cap
   refine ex_assignE (by kernel_rfl) rfl (evG_exact (evG_imeth0 (C := 76) (dx := x.dl) (f := 66) (fs := lexNs 76 1 (.inst 76 x.ds) x.pb) (c := lexOwn P x [] 0 (st 3).q) (r := [(td, .dict G'.prog G'.w (st 3).f (st 3).k), (x.spb, .list []), (201, pitL), (187, pit)]) rfl ?_ lineB_dl rfl (by rw [hK']; kernel_rfl) (by rw [hK']; kernel_rfl) (by rw [hK']; kernel_rfl) ((get_any hK' x (st 3).q hq1).le (by decide)))) ?_
   ·ac_rfl
   cases hq : (st 3).q with
   | nil =>
    have hbf := hs.bf
    rw [hq] at hbf
    refine ex_nil (ex_end ⟨(⟨[], (st 3).f, (st 3).k⟩, [], t), ⟨fun z => absurd rfl z, ?_, fun _ => back_over hM.mem hM.nd h2 hbf⟩, ?_, ?_, OSub.refl _⟩)
    ·show 0 + unk deck (st 3).f ≤ 40
     omega
    ·show 0 < (if g = [] then 0 else _)
     rw [if_neg hg]; exact Nat.succ_pos _
    ·walk_at "subs"
     all_goals rfl
   | cons g' r =>
    refine el12 (hs.next (Nat.le_refl 3) hq) fun t' hn hm => ?_
    refine ex_nil (ex_end ⟨(⟨r, (st 3).f, (st 3).k⟩, g', t'), ⟨fun _ => hn, ?_, fun z => absurd z (hn.grp g' (.head _)).1⟩, ?_, ?_, OSub.refl _⟩)
    ·show r.length + unk deck (st 3).f ≤ 40
     omega
    ·show (if g' = [] then 0 else r.length + unk deck (st 3).f + 1) < (if g = [] then 0 else M + 1)
     rw [if_neg hg, if_neg (hn.grp g' (.head _)).1]; omega
    ·walk_at "subs"
     all_goals rfl
 ·have hnil : b.2.1 = [] := by simpa using hc
  exact ex_ret (d := .none) ev_none ⟨⟨none, hb.2.2 hnil, rfl⟩, lineB_pit⟩
end
noncomputable def posF (text : List Nat) : Nat → Nat
 | 0 => 0
 | i + 1 => posF text i + (getF (text.drop (posF text i))).2
noncomputable def tokAt (text : List Nat) (i : Nat) : List Nat := (getF (text.drop (posF text i))).1
theorem quot_back (r : List Nat) : ∀ w : List Nat, quotF (w.flatMap escF ++ 34 :: r) = (w, (w.flatMap escF).length + 1)
 | [] => by cases r <;> simp [quotF]
 | c :: w => by
  have ih := quot_back r w
  unfold escF isQuote at ih ⊢
  rw [List.flatMap_cons]
  by_cases h : (c == 34 || c == 92) = true
  ·rw [if_pos h]
   show quotF (92 :: (c :: (w.flatMap (fun c => if (c == 34 || c == 92) = true then [92, c] else [c]) ++ 34 :: r))) = _
   rw [quotF_esc]
   simp only [List.take_succ_cons, List.take_zero, List.drop_succ_cons, List.drop_zero, ih, List.length_append, List.length_cons, List.length_nil]
   exact congrArg (Prod.mk _) (by omega)
  ·rw [if_neg h]
   have h34 : c ≠ 34 := fun q => h (by simp [q])
   have h92 : c ≠ 92 := fun q => h (by simp [q])
   show quotF (c :: (w.flatMap (fun c => if (c == 34 || c == 92) = true then [92, c] else [c]) ++ 34 :: r)) = _
   have q : ∀ v, quotF (c :: v) = (c :: (quotF v).1, (quotF v).2 + 1) := fun v => by cases v <;> simp [quotF, h34, h92]
   rw [q, ih]
   simp only [List.length_append, List.length_cons, List.length_nil]
   exact congrArg (Prod.mk _) (by omega)
theorem bare_back (k : Nat) (hk : k ∈ WS) (r : List Nat) : ∀ w : List Nat, bareF ((w.flatMap fun c => [92, c]) ++ k :: r) = (w, (w.flatMap fun c => [92, c]).length + 1)
 | [] => by
  show bareF (k :: r) = _
  cases r <;> simp [bareF, hk]
 | c :: w => by
  have ih := bare_back k hk r w
  rw [List.flatMap_cons]
  show bareF (92 :: (c :: ((w.flatMap fun c => [92, c]) ++ k :: r))) = _
  rw [bareF_esc]
  simp only [List.take_succ_cons, List.take_zero, List.drop_succ_cons, List.drop_zero, ih, List.length_append, List.length_cons, List.length_nil]
  exact congrArg (Prod.mk _) (by omega)
noncomputable def Gap (u : List Nat) : Prop := u = [] ∨ ∃ k ∈ WS, u = [k]
theorem get_gap {u : List Nat} (hu : Gap u) (v : List Nat) : getF (u ++ v) = ((getF v).1, (getF v).2 + u.length) := by
 rcases hu with rfl | ⟨k, hk, rfl⟩
 ·rfl
 ·show getF (k :: v) = _
  simp [getF, hk]
theorem get_back (q : Bool) (w : List Nat) (hw : w ≠ []) (k : Nat) (hk : k ∈ WS) (r : List Nat) : (getF (quoteF q w ++ k :: r)).1 = w ∧ ∃ u, Gap u ∧ (quoteF q w ++ k :: r).drop (getF (quoteF q w ++ k :: r)).2 = u ++ r := by
 have e34 : (34 : Nat) ∉ WS := by decide
 have e92 : (92 : Nat) ∉ WS := by decide
 cases q with
 | true =>
  have e : quoteF true w ++ k :: r = 34 :: (w.flatMap escF ++ 34 :: (k :: r)) := by simp [quoteF]
  have g : getF (34 :: (w.flatMap escF ++ 34 :: (k :: r))) = (w, (w.flatMap escF).length + 1 + 1) := by
   have : ∀ v, getF (34 :: v) = ((quotF v).1, (quotF v).2 + 1) := fun v => by simp [getF, e34]
   rw [this, quot_back]
  rw [e, g]
  refine ⟨rfl, [k], .inr ⟨k, hk, rfl⟩, ?_⟩
  show (34 :: (w.flatMap escF ++ 34 :: (k :: r))).drop ((w.flatMap escF).length + 1 + 1) = _
  rw [List.drop_succ_cons, show w.flatMap escF ++ 34 :: (k :: r) = (w.flatMap escF ++ [34]) ++ (k :: r) by simp, List.drop_left' (by simp)]; rfl
 | false =>
  cases w with
  | nil => exact absurd rfl hw
  | cons c w =>
   have e : quoteF false (c :: w) ++ k :: r = 92 :: (c :: ((w.flatMap fun c => [92, c]) ++ k :: r)) := by simp [quoteF]
   have g : getF (92 :: (c :: ((w.flatMap fun c => [92, c]) ++ k :: r))) = (c :: w, (w.flatMap fun c => [92, c]).length + 1 + 2) := by
    have : ∀ v, getF (92 :: v) = (v.take 1 ++ (bareF (v.drop 1)).1, (bareF (v.drop 1)).2 + 2) := fun v => by simp [getF, e92]
    rw [this, List.drop_succ_cons, List.drop_zero, bare_back k hk]; rfl
   rw [e, g]
   refine ⟨rfl, [], .inl rfl, ?_⟩
   show (92 :: c :: ((w.flatMap fun c => [92, c]) ++ k :: r)).drop ((w.flatMap fun c => [92, c]).length + 1 + 2) = _
   rw [show (w.flatMap fun c => [92, c]).length + 1 + 2 = ((w.flatMap fun c => [92, c]).length + 1) + 1 + 1 from rfl, List.drop_succ_cons, List.drop_succ_cons, show (w.flatMap fun c => [92, c]) ++ k :: r = ((w.flatMap fun c => [92, c]) ++ [k]) ++ r by simp, List.drop_left' (by simp)]; rfl
theorem cut_ws (k : Nat) : ∃ c ∈ WS, cutF k = [c] := by
 unfold cutF
 split
 ·exact ⟨32, by decide, rfl⟩
 ·exact ⟨10, by decide, rfl⟩
noncomputable def tailF (m : Int) (ps : List (List Nat × Nat)) : List Nat := ps.flatMap fun p => quoteF (manner m p.2) p.1 ++ cutF p.2
theorem lex_inv (m : Int) (ps : List (List Nat × Nat)) (hne : ∀ p ∈ ps, p.1 ≠ []) : ∀ i, i ≤ ps.length → ∃ u, Gap u ∧ (tailF m ps).drop (posF (tailF m ps) i) = u ++ tailF m (ps.drop i)
 | 0, _ => ⟨[], .inl rfl, rfl⟩
 | i + 1, hi => by
  refine el12 (lex_inv m ps hne i (by omega)) fun u hu e => ?_
  refine el12 (cut_ws (ps[i]'(by omega)).2) fun c hc ec => ?_
  have hd : ps.drop i = ps[i]'(by omega) :: ps.drop (i + 1) := List.drop_eq_getElem_cons (by omega)
  have et : tailF m (ps.drop i) = quoteF (manner m (ps[i]'(by omega)).2) (ps[i]'(by omega)).1 ++ c :: tailF m (ps.drop (i + 1)) := by
   rw [hd]; unfold tailF; rw [List.flatMap_cons, ec]; simp
  obtain ⟨g1, v, hv, g2⟩ := get_back (manner m (ps[i]'(by omega)).2) (ps[i]'(by omega)).1 (hne _ (List.getElem_mem _)) c hc (tailF m (ps.drop (i + 1)))
  refine ⟨v, hv, ?_⟩
  show (tailF m ps).drop (posF (tailF m ps) i + (getF ((tailF m ps).drop (posF (tailF m ps) i))).2) = _
  rw [← List.drop_drop, e, et, get_gap hu]
  show (u ++ _).drop (_ + u.length) = _
  rw [Nat.add_comm, ← List.drop_drop, List.drop_left, g2]
theorem lex_tok (m : Int) (ps : List (List Nat × Nat)) (hne : ∀ p ∈ ps, p.1 ≠ []) (i : Nat) (hi : i < ps.length) : tokAt (tailF m ps) i = (ps[i]'hi).1 := by
 refine el12 (lex_inv m ps hne i (by omega)) fun u hu e => ?_
 refine el12 (cut_ws (ps[i]'hi).2) fun c hc ec => ?_
 have hd : ps.drop i = ps[i]'hi :: ps.drop (i + 1) := List.drop_eq_getElem_cons hi
 have et : tailF m (ps.drop i) = quoteF (manner m (ps[i]'hi).2) (ps[i]'hi).1 ++ c :: tailF m (ps.drop (i + 1)) := by
  rw [hd]; unfold tailF; rw [List.flatMap_cons, ec]; simp
 refine el02 (get_back (manner m (ps[i]'hi).2) (ps[i]'hi).1 (hne _ (List.getElem_mem _)) c hc (tailF m (ps.drop (i + 1)))) fun g1 _ => ?_
 unfold tokAt
 rw [e, et, get_gap hu]; exact g1
theorem lex_end (m : Int) (ps : List (List Nat × Nat)) (hne : ∀ p ∈ ps, p.1 ≠ []) : tokAt (tailF m ps) ps.length = [] ∧ (tailF m ps).drop (posF (tailF m ps) (ps.length + 1)) = [] := by
 refine el12 (lex_inv m ps hne ps.length (Nat.le_refl _)) fun u hu e => ?_
 rw [List.drop_length] at e
 have e' : (tailF m ps).drop (posF (tailF m ps) ps.length) = u ++ [] := e
 have g := get_gap hu []
 constructor
 ·unfold tokAt; rw [e', g]; rfl
 ·show (tailF m ps).drop (posF (tailF m ps) ps.length + (getF ((tailF m ps).drop (posF (tailF m ps) ps.length))).2) = _
  rw [← List.drop_drop, e', g]
  exact List.drop_of_length_le (by simp [getF])
theorem lex_all (m : Int) (ws : List (List Nat)) (n : Nat) (hn : ws.length = n) (hne : ∀ w ∈ ws, w ≠ []) : (List.range (n + 1)).map (tokAt (textF m ws)) = ws ++ [[]] ∧ lineF (textF m ws) (posF (textF m ws) (n + 1)) = 1 + ((textF m ws).count 10 : Nat) := by
 subst hn
 have ht : textF m ws = tailF m ws.zipIdx := rfl
 have hz : ∀ p ∈ ws.zipIdx, p.1 ≠ [] := fun p hp => hne _ (by have := List.fst_mem_of_mem_zipIdx hp; exact this)
 have hl : ws.zipIdx.length = ws.length := List.length_zipIdx
 refine el02 (lex_end m ws.zipIdx hz) fun h1 h2 => ?_
 rw [hl] at h1 h2
 rw [ht]
 constructor
 ·rw [List.range_succ, List.map_append, List.map_cons, List.map_nil, h1]
  congr 1
  refine List.ext_getElem (by simp) fun i hi hi' => ?_
  rw [List.getElem_map, List.getElem_range, lex_tok m ws.zipIdx hz i (by rw [hl]; exact hi')]
  simp
 ·unfold lineF
  rw [List.take_of_length_le]
  have := congrArg List.length h2
  rw [List.length_drop, List.length_nil] at this
  omega
theorem text_len (m : Int) (ws : List (List Nat)) (hw : ws.length ≤ 8) (hl : ∀ w ∈ ws, w.length ≤ 8) : (textF m ws).length ≤ 1000 := by
 have key : ∀ ps : List (List Nat × Nat), (∀ p ∈ ps, p.1.length ≤ 8) → (tailF m ps).length ≤ 20 * ps.length := by
  intro ps
  induction ps with
  | nil => intro _; simp [tailF]
  | cons p r ih =>
   intro h
   have h1 := ih fun q hq => h q (List.mem_cons_of_mem _ hq)
   have h2 := h p (List.mem_cons_self ..)
   have h3 : (quoteF (manner m p.2) p.1).length ≤ 18 := by
    unfold quoteF
    split
    ·have : ∀ w : List Nat, (w.flatMap escF).length ≤ 2 * w.length := fun w => by
      induction w with
      | nil => simp
      | cons c w ih => rw [List.flatMap_cons, List.length_append, List.length_cons]; have : (escF c).length ≤ 2 := by unfold escF; split <;> simp
                       omega
     have := this p.1
     simp only [List.length_cons, List.length_append, List.length_nil]
     omega
    ·have : ∀ w : List Nat, (w.flatMap fun c => [92, c]).length = 2 * w.length := fun w => by
      induction w with
      | nil => simp
      | cons c w ih => rw [List.flatMap_cons, List.length_append, List.length_cons, ih]; simp; omega
     rw [this]; omega
   have h4 : (cutF p.2).length = 1 := by unfold cutF; split <;> rfl
   show ((quoteF (manner m p.2) p.1 ++ cutF p.2) ++ tailF m r).length ≤ _
   rw [List.length_append, List.length_append, List.length_cons]
   omega
 have := key ws.zipIdx fun p hp => hl _ (List.fst_mem_of_mem_zipIdx hp)
 rw [List.length_zipIdx] at this
 show (tailF m ws.zipIdx).length ≤ _
 omega
noncomputable def B64 : List UInt8 := (S "ABCDEFGHIJKLMNOPQRSTUVWXYZabcdefghijklmnopqrstuvwxyz0123456789+/").map Nat.toUInt8
noncomputable def b64I (v : Int) : Int := ((B64.getD v.toNat 0).toNat : Int)
noncomputable def b64valF (c : Int) : Int := if 65 ≤ c ∧ c ≤ 90 then c - 65 else if 97 ≤ c ∧ c ≤ 122 then c - 71 else if 48 ≤ c ∧ c ≤ 57 then c + 4 else if c = 43 then 62 else if c = 47 then 63 else 64
noncomputable def emitAt (v : Int) (k : Nat) : Int := b64I (v / (2 ^ k : Nat) % 64)
noncomputable def emitF (v : Int) (lb : Nat) : List Int := if 12 ≤ lb then [emitAt v (lb - 6), emitAt v (lb - 12)] else if 6 ≤ lb then [emitAt v (lb - 6)] else []
noncomputable def stepF (st : Int × Nat × List Int) (b : UInt8) : Int × Nat × List Int := ((st.1 * 256 + b.toNat) % 65536, (st.2.1 + 8) % 6, st.2.2 ++ emitF ((st.1 * 256 + b.toNat) % 65536) (st.2.1 + 8))
noncomputable def stF (l : List UInt8) : Int × Nat × List Int := l.foldl stepF (0, 0, [])
theorem stF_ok (l : List UInt8) : 0 ≤ (stF l).1 ∧ (stF l).1 < 65536 ∧ (stF l).2.1 < 6 ∧ (∀ i ∈ (stF l).2.2, 0 ≤ i ∧ i < 256) ∧ (stF l).2.2.length ≤ l.length * 2 := by
 have key : ∀ (l : List UInt8) (st : Int × Nat × List Int), (0 ≤ st.1 ∧ st.1 < 65536 ∧ st.2.1 < 6 ∧ (∀ i ∈ st.2.2, 0 ≤ i ∧ i < 256)) → (0 ≤ (l.foldl stepF st).1 ∧ (l.foldl stepF st).1 < 65536 ∧ (l.foldl stepF st).2.1 < 6 ∧ (∀ i ∈ (l.foldl stepF st).2.2, 0 ≤ i ∧ i < 256) ∧ (l.foldl stepF st).2.2.length ≤ st.2.2.length + l.length * 2) := by
  intro l
  induction l with
  | nil => intro st h; exact ⟨h.1, h.2.1, h.2.2.1, h.2.2.2, by simp⟩
  | cons b l ih =>
   intro st h
   have hemit : ∀ v k, ∀ i ∈ emitF v k, 0 ≤ i ∧ i < 256 := fun v k i hi => by
    have hb : ∀ v, 0 ≤ b64I v ∧ b64I v < 256 := fun v => by
     unfold b64I
     have := (B64.getD v.toNat 0).toNat_lt
     omega
    unfold emitF at hi
    split at hi
    ·simp only [List.mem_cons, List.not_mem_nil, or_false] at hi
     focus (refine Or.elim hi (fun y0 => ?_) (fun y0 => ?_); subst y0; rotate_left; subst y0; rotate_left) <;> exact hb _
    ·split at hi
     ·rw [List.mem_singleton.mp hi]; exact hb _
     ·cases hi
   have hlen : ∀ v k, (emitF v k).length ≤ 2 := fun v k => by unfold emitF; split; simp; split <;> simp
   have := ih (stepF st b) ⟨by unfold stepF; dsimp only; omega, by unfold stepF; dsimp only; omega, by unfold stepF; dsimp only; omega, fun i hi => by
    refine Or.elim (List.mem_append.mp hi) (fun hi => ?_) (fun hi => ?_)
    ·exact h.2.2.2 i hi
    ·exact hemit _ _ i hi⟩
   refine ⟨this.1, this.2.1, this.2.2.1, this.2.2.2.1, Nat.le_trans this.2.2.2.2 ?_⟩
   have h1 : (stepF st b).2.2.length ≤ st.2.2.length + 2 := by
    unfold stepF; dsimp only
    rw [List.length_append]
    have := hlen ((st.1 * 256 + b.toNat) % 65536) (st.2.1 + 8)
    omega
   rw [List.length_cons]; omega
 have := key l (0, 0, []) ⟨by decide, by decide, by decide, fun i hi => by cases hi⟩
 simpa [stF] using this
theorem stF_succ (l : List UInt8) (i : Nat) (b : UInt8) (h : l[i]? = some b) : stF (l.take (i + 1)) = stepF (stF (l.take i)) b := by
 unfold stF
 rw [List.take_add_one, h]
 simp [List.foldl_append]
section
variable {P : Params} {G : Gd} (hK : G.K = K02 P)
include hK
set_option maxHeartbeats 1000000
theorem b64value_is (c : Int) : FnIs G 30 (.ref 129) [.int c] (.int (b64valF c)) := by
 refine fn_K hK [("c", .int c)] rfl rfl rfl ?_ rfl rfl rfl rfl rfl rfl rfl rfl ?_
 ·intro vs hv; refine el11 (len1 hv) fun a y0 => ?_; subst y0; kernel_rfl
 intro X L
 refine ex_if (c := decide (65 ≤ c) && decide (c ≤ 90)) (tst_cmp2 (n := 21) rfl ev_int ?_ ev_int cmp_le_int cmp_le_int) (fun h => ?_) (fun h => ex_nil ?_)
 ·ac_rfl
 ·refine ex_ret (d := .int (c - 65)) (ev_binop ?_ ev_int bin_sub) ?_
  ·ac_rfl
  ·have : 65 ≤ c ∧ c ≤ 90 := by simpa using h
   show D.int (c - 65) = D.int (b64valF c)
   unfold b64valF; rw [if_pos this]
 have h1 : ¬ (65 ≤ c ∧ c ≤ 90) := by simpa using h
 refine ex_if (c := decide (97 ≤ c) && decide (c ≤ 122)) (tst_cmp2 (n := 21) rfl ev_int ?_ ev_int cmp_le_int cmp_le_int) (fun h => ?_) (fun h => ex_nil ?_)
 ·ac_rfl
 ·refine ex_ret (d := .int (c - 71)) (ev_binop ?_ ev_int bin_sub) ?_
  ·ac_rfl
  ·have : 97 ≤ c ∧ c ≤ 122 := by simpa using h
   show D.int (c - 71) = D.int (b64valF c)
   unfold b64valF; rw [if_neg h1, if_pos this]
 have h2 : ¬ (97 ≤ c ∧ c ≤ 122) := by simpa using h
 refine ex_if (c := decide (48 ≤ c) && decide (c ≤ 57)) (tst_cmp2 (n := 21) rfl ev_int ?_ ev_int cmp_le_int cmp_le_int) (fun h => ?_) (fun h => ex_nil ?_)
 ·ac_rfl
 ·refine ex_ret (d := .int (c + 4)) (ev_binop ?_ ev_int bin_add) ?_
  ·ac_rfl
  ·have : 48 ≤ c ∧ c ≤ 57 := by simpa using h
   show D.int (c + 4) = D.int (b64valF c)
   unfold b64valF; rw [if_neg h1, if_neg h2, if_pos this]
 have h3 : ¬ (48 ≤ c ∧ c ≤ 57) := by simpa using h
 refine ex_if (c := c == 43) ?_ (fun h => ?_) (fun h => ex_nil ?_)
 ·ac_rfl
 ·refine ex_ret (d := .int 62) ev_int ?_
  have : c = 43 := by simpa using h
  show D.int 62 = D.int (b64valF c)
  unfold b64valF; rw [if_neg h1, if_neg h2, if_neg h3, if_pos this]
 have h4 : ¬ c = 43 := by simpa using h
 refine ex_if (c := c == 47) ?_ (fun h => ?_) (fun h => ex_nil ?_)
 ·ac_rfl
 ·refine ex_ret (d := .int 63) ev_int ?_
  have : c = 47 := by simpa using h
  show D.int 63 = D.int (b64valF c)
  unfold b64valF; rw [if_neg h1, if_neg h2, if_neg h3, if_neg h4, if_pos this]
 have h5 : ¬ c = 47 := by simpa using h
 refine ex_ret (d := .int 64) ev_int ?_
 show D.int 64 = D.int (b64valF c)
 unfold b64valF; rw [if_neg h1, if_neg h2, if_neg h3, if_neg h4, if_neg h5]
theorem buffer_is (l : List UInt8) : FnIs G 30 (.ref 115) [.bytes l] (.bytes l) := by
 refine fn_K hK [("data", .bytes l)] rfl rfl rfl ?_ rfl rfl rfl rfl rfl rfl rfl rfl ?_
 ·intro vs hv; refine el11 (len1 hv) fun a y0 => ?_; subst y0; kernel_rfl
 intro X L
 refine ex_assign (d := .raw (.type "bytes")) (by kernel_rfl) rfl (ev_callT (T := "type") (ds := [.bytes l]) ?_ ?_ rfl fn_type_bytes rfl) ?_
 iterate 2 (·ac_rfl)
 refine ex_if (c := true) (tst_cmp (n := 21) rfl (d₁ := .raw (.type "bytes")) (d₂ := .raw (.type "bytes")) ?_ ?_ cmp_is_type) (fun h => ?_) (fun h => by injection h)
 iterate 2 (·ac_rfl)
 ·refine ex_ret (d := .bytes l) ?_ rfl
  ac_rfl
theorem ascii_buffer_is (l : List UInt8) : FnIs G 30 (.ref 108) [.bytes l] (.bytes l) := by
 refine fn_K hK [("data", .bytes l)] rfl rfl rfl ?_ rfl rfl rfl rfl rfl rfl rfl rfl ?_
 ·intro vs hv; refine el11 (len1 hv) fun a y0 => ?_; subst y0; kernel_rfl
 intro X L
 refine ex_assign (d := .raw (.type "bytes")) (by kernel_rfl) rfl (ev_callT (T := "type") (ds := [.bytes l]) ?_ ?_ rfl fn_type_bytes rfl) ?_
 iterate 2 (·ac_rfl)
 refine ex_if (c := false) (tst_cmp (n := 21) rfl (d₁ := .raw (.type "bytes")) (d₂ := .raw (.type "str")) ?_ ?_ cmp_is_type) (fun h => by injection h) (fun h => ex_nil ?_)
 iterate 2 (·ac_rfl)
 refine ex_if (c := true) (tst_cmp (n := 21) rfl (d₁ := .raw (.type "bytes")) (d₂ := .raw (.type "bytes")) ?_ ?_ cmp_is_type) (fun h => ?_) (fun h => by injection h)
 iterate 2 (·ac_rfl)
 ·refine ex_ret (d := .bytes l) ?_ rfl
  ac_rfl
theorem truth_is (b : Bool) : FnIs G 40 (.ref 122) [.bool b] (.bool b) := by
 refine fn_K hK [("x", .bool b)] rfl rfl rfl ?_ rfl rfl rfl rfl rfl rfl rfl rfl ?_
 ·intro vs hv; refine el11 (len1 hv) fun a y0 => ?_; subst y0; kernel_rfl
 intro X L
 refine ex_assign (d := .raw (.type "bool")) (by kernel_rfl) rfl (ev_callT (T := "type") (ds := [.bool b]) ?_ ?_ rfl fn_type_bool rfl) ?_
 iterate 2 (·ac_rfl)
 refine ex_if (c := true) ?_ (fun h => ?_) (fun h => by injection h)
 ·refine tst_or_no (tst_cmp (n := 31) rfl (d₁ := .bool b) (d₂ := .none) ?_ ev_none (cmp_is_none rfl)) (tst_or_yes (tst_cmp (n := 31) rfl (d₁ := .raw (.type "bool")) (d₂ := .raw (.type "bool")) ?_ ?_ cmp_is_type))
  all_goals (ac_rfl)
 ·refine ex_ret (d := .bool b) (ev_if (c := b) ?_ (fun h => ?_) (fun h => ?_)) rfl
  ·ac_rfl
  ·rw [h]; exact ev_bool
  ·rw [h]; exact ev_bool
end
section
variable {P : Params} {G : Gd} (hK : G.K = K02 P)
include hK
set_option maxHeartbeats 1000000
theorem b2a_is (l : List UInt8) (hl : l.length ≤ 100) (h0 : (stF l).2.1 = 0) : FnA G 60 (.ref 145) [.bytes l] ["newline"] [.bool false] (.bytes ((stF l).2.2.map fun m => m.toNat.toUInt8)) := by
 refine fnA_K hK [("data", .bytes l), ("newline", .bool false)] (fun vs ks => vs ++ ks) rfl rfl rfl ?_ ?_ rfl rfl rfl rfl rfl rfl rfl rfl ?_
 ·intro S vs ks hv hk; refine el11 (len1 hv) fun a y0 => ?_; subst y0; refine el11 (len1 hk) fun b y0 => ?_; subst y0; kernel_rfl
 ·intro X h vs ks r r'; exact r.append r'
 intro X L
 refine ex_assign (d := .bytes l) (by kernel_rfl) rfl (ev_call (f := 115) (ds := [.bytes l]) ?_ ?_ ?_ rfl ((buffer_is hK l).le (by decide)) rfl) ?_
 ·ac_rfl
 ·rw [hK]; rfl
 ·ac_rfl
 refine ex_assign (d := .bool false) (by kernel_rfl) rfl (ev_call (f := 122) (ds := [.bool false]) ?_ ?_ ?_ rfl ((truth_is hK false).le (by decide)) rfl) ?_
 ·ac_rfl
 ·rw [hK]; rfl
 ·ac_rfl
 refine el11 (⟨_, rfl⟩ : ∃ t, nsIn (K02 P) mainGlobals (Str.ofString "_B64") = some (some (.bytes B64.toArray t))) fun tB hB => ?_
 refine ex_newlist (by kernel_rfl) rfl fun a ha => ?_
 refine ex_assign (d := .int 0) (by kernel_rfl) rfl ev_int (ex_assign (d := .int 0) (by kernel_rfl) rfl ev_int ?_)
 refine ex_forN (ds := byteInts l) (by kernel_rfl) (src_of (d := .bytes l) ?_ iter_bytes) (fun i => [("leftchar", .int (stF (l.take i)).1), ("leftbits", .int (stF (l.take i)).2.1), ("out", own a), ("newline", .bool false)]) (fun i => [(a, .list (dints (stF (l.take i)).2.2))]) ?_ (OSub.refl _) (fun _ => rfl) ?_ ?_
 ·ac_rfl
 ·walk_at "subs"
  all_goals (first | rfl | (rw [List.take_zero]; rfl))
 ·intro i d hd Y
  have hd' : ∃ b, l[i]? = some b ∧ d = .int b.toNat := by
   simp only [byteInts, List.getElem?_map] at hd
   cases e : l[i]? with
   | none => rw [e] at hd; injection hd
   | some b => rw [e] at hd; (injection hd with y0; subst y0); exact ⟨b, rfl, rfl⟩
  refine el12 hd' fun b hb y0 => ?_; subst y0
  rw [stF_succ l i b hb]
  refine el05 (stF_ok (l.take i)) fun k1 k2 k3 k4 k5 => ?_
  have hlen : (l.take i).length ≤ 100 := by rw [List.length_take]; omega
  generalize stF (l.take i) = st at k1 k2 k3 k4 k5
  obtain ⟨v, lb, out⟩ := st
  simp only at k1 k2 k3 k4 k5
  have hbn : (0 : Int) ≤ b.toNat ∧ (b.toNat : Int) < 256 := by have := b.toNat_lt; omega
  show Ex G _ _ [("b", .int b.toNat), ("leftchar", .int v), ("leftbits", .int lb), ("out", own a), ("newline", .bool false)] [(a, .list (dints out))] _ (Out.turn Y [("leftchar", .int ((v * 256 + b.toNat) % 65536)), ("leftbits", .int ((lb + 8) % 6 : Nat)), ("out", own a), ("newline", .bool false)] [(a, .list (dints (out ++ emitF ((v * 256 + b.toNat) % 65536) (lb + 8))))] _ _)
  refine ex_assign (d := .int ((v * 256 + b.toNat) % 65536)) (by kernel_rfl) rfl (ev_eq (d' := .int (Builtin.bitAnd (Builtin.bitOr (v * 2 ^ (8 : Int).toNat) b.toNat) 65535)) (ev_binop (ev_binop (ev_binop ?_ ev_int (bin_shl (by decide) (by decide) (by omega))) ?_ bin_or) ev_int bin_and) ?_) ?_
  iterate 2 (·ac_rfl)
  ·have e1 : v * 2 ^ (8 : Int).toNat = v * ((2 ^ 8 : Nat) : Int) := rfl
   rw [e1, or_low 8 k1 hbn, and_65535 (by omega)]; rfl
  have hv' : 0 ≤ (v * 256 + (b.toNat : Int)) % 65536 ∧ (v * 256 + (b.toNat : Int)) % 65536 < 65536 := by omega
  generalize (v * 256 + (b.toNat : Int)) % 65536 = u at hv' ⊢
  refine ex_assign (d := .int (lb + 8 : Nat)) (by kernel_rfl) rfl (ev_eq (d' := .int ((lb : Int) + 8)) (ev_binop ?_ ev_int bin_add) ?_) ?_
  ·ac_rfl
  ·push_cast; rfl
  refine ex_while (σ := Nat × List Int) (fun q => [("leftbits", .int q.1), ("leftchar", .int u), ("out", own a), ("newline", .bool false)]) (fun q => [(a, .list (dints q.2))]) (fun q => q.1 ≤ 13 ∧ q.1 % 6 = (lb + 8) % 6 ∧ q.2 ++ emitF u q.1 = out ++ emitF u (lb + 8) ∧ q.2.length ≤ 300) (fun q => q.1) (fun q => decide (6 ≤ q.1)) (lb + 8, out) ⟨by show lb + 8 ≤ 13; omega, rfl, rfl, by show out.length ≤ 300; omega⟩ ?_ (OSub.refl _) (fun _ => rfl) (fun q hq => ?_) (fun q hq hc => ?_) (fun q hq hc => ?_)
  ·walk_at "subs"
   all_goals rfl
  ·refine tstE (b := decide ((q.1 : Int) ≥ 6)) ?_ (by simp; omega)
   ac_rfl
  ·have h6 : 6 ≤ q.1 := by simpa using hc
   obtain ⟨k, o⟩ := q
   refine el04 hq fun q1 q2 q3 q4 => ?_
   simp only at q1 q2 q3 q4 h6
   have hem : emitF u k = emitAt u (k - 6) :: emitF u (k - 6) := by
    unfold emitF
    by_cases h12 : 12 ≤ k
    ·rw [if_pos h12, if_neg (by omega), if_pos (by omega), Nat.sub_sub]
    ·rw [if_neg h12, if_pos h6, if_neg (by omega), if_neg (by omega)]
   refine ex_append (a := a) (ds := dints o) (d := .int (emitAt u (k - 6))) ?_ (OSet.head _) (evAll_cons rfl (ev_eq (d' := .int ((B64.getD (Builtin.bitAnd (u.fdiv (2 ^ ((k : Int) - 6).toNat)) 63).toNat 0).toNat : Nat)) (ev_item rfl (ev_globB (l := B64) (t := tB) (by kernel_rfl) ?_ (by kernel_rfl)) (ev_binop (ev_binop ?_ (ev_binop ?_ ev_int bin_sub) (bin_shr (by omega))) ev_int bin_and) (item_bytes ?_ (by decide))) ?_) evAll_nil) rfl (small (by rw [dints, List.length_map]; omega)) rfl rfl rfl ?_
   ·ac_rfl
   ·rw [hK]; exact hB
   iterate 2 (·ac_rfl)
   ·have e1 : u.fdiv (2 ^ ((k : Int) - 6).toNat) = u / ((2 ^ (k - 6) : Nat) : Int) := by
     have : ((k : Int) - 6).toNat = k - 6 := by omega
     rw [this]; exact shr_nat _ hv'.1
    have h0 : 0 ≤ u / ((2 ^ (k - 6) : Nat) : Int) := Int.ediv_nonneg hv'.1 (Int.natCast_nonneg _)
    rw [e1, and_63 h0]
    have : ((64 : Nat) : Int) = 64 := rfl
    show 0 ≤ _ % 64 ∧ _ % 64 < ((64 : Nat) : Int)
    omega
   ·have e1 : u.fdiv (2 ^ ((k : Int) - 6).toNat) = u / ((2 ^ (k - 6) : Nat) : Int) := by
     have : ((k : Int) - 6).toNat = k - 6 := by omega
     rw [this]; exact shr_nat _ hv'.1
    have h0 : 0 ≤ u / ((2 ^ (k - 6) : Nat) : Int) := Int.ediv_nonneg hv'.1 (Int.natCast_nonneg _)
    rw [e1, and_63 h0]; rfl
   ·refine ex_assign (d := .int (k - 6 : Nat)) (by kernel_rfl) rfl (ev_eq (d' := .int ((k : Int) - 6)) (ev_binop ?_ ev_int bin_sub) (by congr 1; omega)) ?_
    ·ac_rfl
    refine ex_nil (ex_end ⟨(k - 6, o ++ [emitAt u (k - 6)]), ⟨by show k - 6 ≤ 13; omega, by show (k - 6) % 6 = _; omega, ?_, ?_⟩, by show k - 6 < k; omega, ?_, ?_⟩)
    ·rw [← q3, hem]; simp
    ·show (o ++ [emitAt u (k - 6)]).length ≤ 300
     have hl2 := congrArg List.length q3
     rw [hem] at hl2
     simp only [List.length_append, List.length_cons, List.length_nil] at hl2 ⊢
     have : (emitF u (lb + 8)).length ≤ 2 := by unfold emitF; split; simp; split <;> simp
     omega
    ·walk_at "subs"
    ·have : dints (o ++ [emitAt u (k - 6)]) = dints o ++ [.int (emitAt u (k - 6))] := by simp [dints]
     rw [this]; exact OSub.refl _
  ·obtain ⟨k, o⟩ := q
   refine el04 hq fun q1 q2 q3 q4 => ?_
   simp only at q1 q2 q3 q4
   have h6 : ¬ 6 ≤ k := by simpa using hc
   have hem : emitF u k = [] := by unfold emitF; rw [if_neg (by omega), if_neg h6]
   rw [hem, List.append_nil] at q3
   have hk : k = (lb + 8) % 6 := by omega
   subst hk q3
   refine ex_nil (ex_turn_end ?_ (OSub.refl _))
   walk_at "subs"
 ·have hlen2 : (byteInts l).length = l.length := by simp [byteInts]
  rw [hlen2, List.take_length]
  refine el05 (stF_ok l) fun k1 k2 k3 k4 k5 => ?_
  show Ex G _ _ [("leftchar", .int (stF l).1), ("leftbits", .int (stF l).2.1), ("out", own a), ("newline", .bool false)] [(a, .list (dints (stF l).2.2))] _ _
  rw [h0]
  generalize (stF l).2.2 = out at k4 k5 ⊢
  refine ex_if (c := false) (tstE (b := ((0 : Nat) : Int) == 2) ?_ rfl) (fun h => by injection h) (fun _ => ?_)
  ·ac_rfl
  refine ex_if (c := false) (tstE (b := ((0 : Nat) : Int) == 4) ?_ rfl) (fun h => by injection h) (fun _ => ex_nil (ex_nil ?_))
  ·ac_rfl
  refine ex_if (c := false) ?_ (fun h => by injection h) (fun _ => ex_nil ?_)
  ·ac_rfl
  refine ex_freeze "out" (a := a) (ds := dints out) (ow' := []) (by walk_at "lk") (List.mem_cons_self ..) OSub.nil (by simp) (fun _ => .nil) ha ?_
  refine ex_ret (d := .bytes (out.map fun (m : Int) => m.toNat.toUInt8)) ?_ rfl
  refine ev_callT (T := "bytes") (ds := [.list (dints out)]) ?_ ?_ rfl (fn_bytes k4 (small (by omega))) rfl
  iterate 2 (·ac_rfl)
theorem b64encode_is (l : List UInt8) (hl : l.length ≤ 100) (h0 : (stF l).2.1 = 0) : FnIs G 80 (.ref 153) [.bytes l] (.bytes ((stF l).2.2.map fun m => m.toNat.toUInt8)) := by
 refine FnA.plain (fnA_K hK [("s", .bytes l), ("altchars", .none)] (fun vs ks => vs ++ [.none]) rfl rfl rfl ?_ ?_ rfl rfl rfl rfl rfl rfl rfl rfl ?_)
 ·intro S vs ks hv hk; refine el11 (len1 hv) fun a y0 => ?_; subst y0; rw [len0 hk]; kernel_rfl
 ·intro X h vs ks r r'; exact r.append (.cons .none .nil)
 intro X L
 refine ex_assign (d := .bytes ((stF l).2.2.map fun (m : Int) => m.toNat.toUInt8)) (by kernel_rfl) rfl (ev_callK (f := 145) (ds := [.bytes l]) (kd := .bool false) ?_ ?_ ?_ rfl ev_bool ((b2a_is hK l hl h0).le (by decide)) rfl) ?_
 ·ac_rfl
 ·rw [hK]; rfl
 ·ac_rfl
 refine ex_if (c := false) (tst_cmp (n := 71) rfl (d₁ := .none) (d₂ := .none) ?_ ev_none (cmp_isnot_none rfl)) (fun h => by injection h) (fun _ => ex_nil ?_)
 ·ac_rfl
 refine ex_ret ?_ rfl
 ac_rfl
end
noncomputable def nlF (q : Nat) (v : Int) : Int := if q = 0 then v else if q = 1 then v % 16 else if q = 2 then v % 4 else 0
noncomputable def noF (q : Nat) (lf v : Int) : List Int := if q = 0 then [] else if q = 1 then [lf * 4 + v / 16] else if q = 2 then [lf * 16 + v / 4] else [lf * 64 + v]
noncomputable def stepA (st : Nat × Int × List Int) (b : UInt8) : Nat × Int × List Int := ((st.1 + 1) % 4, nlF st.1 (b64valF b.toNat), st.2.2 ++ noF st.1 st.2.1 (b64valF b.toNat))
noncomputable def stA (l : List UInt8) : Nat × Int × List Int := l.foldl stepA (0, 0, [])
noncomputable def goodB (b : UInt8) : Prop := (b.toNat : Int) ≠ 61 ∧ 0 ≤ b64valF b.toNat ∧ b64valF b.toNat < 64
noncomputable def okA (st : Nat × Int × List Int) : Prop := st.1 < 4 ∧ 0 ≤ st.2.1 ∧ (st.1 = 1 → st.2.1 < 64) ∧ (st.1 = 2 → st.2.1 < 16) ∧ (st.1 = 3 → st.2.1 < 4) ∧ ∀ i ∈ st.2.2, 0 ≤ i ∧ i < 256
theorem okA_step (st : Nat × Int × List Int) (b : UInt8) (h : okA st) (hb : goodB b) : okA (stepA st b) := by
 obtain ⟨q, lf, o⟩ := st
 refine el06 h fun h1 h2 h3 h4 h5 h6 => ?_
 refine el03 hb fun _ b1 b2 => ?_
 simp only at h1 h2 h3 h4 h5 h6
 have hq : q = 0 ∨ q = 1 ∨ q = 2 ∨ q = 3 := by omega
 unfold okA stepA
 dsimp only
 generalize b64valF b.toNat = v at b1 b2 ⊢
 have key : ∀ i ∈ noF q lf v, 0 ≤ i ∧ i < 256 := by
  intro i hi
  rcases hq with rfl | rfl | rfl | rfl
  ·simp [noF] at hi
  ·have := h3 rfl; simp [noF] at hi; omega
  ·have := h4 rfl; simp [noF] at hi; omega
  ·have := h5 rfl; simp [noF] at hi; omega
 have all : ∀ i ∈ o ++ noF q lf v, 0 ≤ i ∧ i < 256 := fun i hi => by
  refine Or.elim (List.mem_append.mp hi) (fun hi => ?_) (fun hi => ?_)
  ·exact h6 i hi
  ·exact key i hi
 have keyl : (noF q lf v).length ≤ 1 := by
  rcases hq with rfl | rfl | rfl | rfl <;> simp [noF]
 rcases hq with rfl | rfl | rfl | rfl
 ·refine ⟨by decide, ?_, fun _ => ?_, fun h => absurd h (by decide), fun h => absurd h (by decide), all⟩ <;> simp [nlF] <;> omega
 ·refine ⟨by decide, ?_, fun h => absurd h (by decide), fun _ => ?_, fun h => absurd h (by decide), all⟩ <;> simp [nlF] <;> omega
 ·refine ⟨by decide, ?_, fun h => absurd h (by decide), fun h => absurd h (by decide), fun _ => ?_, all⟩ <;> simp [nlF] <;> omega
 ·refine ⟨by decide, ?_, fun h => absurd h (by decide), fun h => absurd h (by decide), fun h => absurd h (by decide), all⟩ <;> simp [nlF]
theorem noF_len (q : Nat) (lf v : Int) : (noF q lf v).length ≤ 1 := by
 unfold noF; split
 ·simp
 ·split
  ·simp
  ·split <;> simp
theorem stA_ok (l : List UInt8) (h : ∀ b ∈ l, goodB b) : okA (stA l) ∧ (stA l).2.2.length ≤ l.length := by
 have key : ∀ (l : List UInt8) (st : Nat × Int × List Int), okA st → (∀ b ∈ l, goodB b) → okA (l.foldl stepA st) ∧ (l.foldl stepA st).2.2.length ≤ st.2.2.length + l.length := by
  intro l
  induction l with
  | nil => intro st h _; exact ⟨h, by simp⟩
  | cons b l ih =>
   intro st h hb
   have h1 := okA_step st b h (hb b (List.mem_cons_self ..))
   refine el02 (ih (stepA st b) h1 fun b' hb' => hb b' (List.mem_cons_of_mem _ hb')) fun h2 h3 => ?_
   refine ⟨h2, Nat.le_trans h3 ?_⟩
   have h4 : (stepA st b).2.2.length ≤ st.2.2.length + 1 := by
    show (st.2.2 ++ noF _ _ _).length ≤ _
    rw [List.length_append]
    have := noF_len st.1 st.2.1 (b64valF b.toNat)
    omega
   rw [List.length_cons]; omega
 have := key l (0, 0, []) ⟨by decide, Int.le_refl _, fun h => absurd h (by decide), fun h => absurd h (by decide), fun h => absurd h (by decide), fun i hi => absurd hi (List.not_mem_nil)⟩ h
 simpa [stA] using this
theorem stA_succ (l : List UInt8) (i : Nat) (b : UInt8) (h : l[i]? = some b) : stA (l.take (i + 1)) = stepA (stA (l.take i)) b := by
 unfold stA
 rw [List.take_add_one, h]
 simp [List.foldl_append]
section
variable {P : Params} {G : Gd} (hK : G.K = K02 P)
include hK
set_option maxHeartbeats 1000000
theorem a2b_is (l : List UInt8) (hl : l.length ≤ 100) (hg : ∀ b ∈ l, goodB b) (h0 : (stA l).1 = 0) : FnA G 60 (.ref 137) [.bytes l] ["strict_mode"] [.bool false] (.bytes ((stA l).2.2.map fun (m : Int) => m.toNat.toUInt8)) := by
 refine fnA_K hK [("data", .bytes l), ("strict_mode", .bool false)] (fun vs ks => vs ++ ks) rfl rfl rfl ?_ ?_ rfl rfl rfl rfl rfl rfl rfl rfl ?_
 ·intro S vs ks hv hk; refine el11 (len1 hv) fun a y0 => ?_; subst y0; refine el11 (len1 hk) fun b y0 => ?_; subst y0; kernel_rfl
 ·intro X h vs ks r r'; exact r.append r'
 intro X L
 refine ex_assign (d := .bytes l) (by kernel_rfl) rfl (ev_call (f := 108) (ds := [.bytes l]) ?_ ?_ ?_ rfl ((ascii_buffer_is hK l).le (by decide)) rfl) ?_
 ·ac_rfl
 ·rw [hK]; rfl
 ·ac_rfl
 refine ex_assign (d := .bool false) (by kernel_rfl) rfl (ev_call (f := 122) (ds := [.bool false]) ?_ ?_ ?_ rfl ((truth_is hK false).le (by decide)) rfl) ?_
 ·ac_rfl
 ·rw [hK]; rfl
 ·ac_rfl
 refine ex_newlist (by kernel_rfl) rfl fun a ha => ?_
 refine ex_assign (d := .int 0) (by kernel_rfl) rfl ev_int (ex_assign (d := .int 0) (by kernel_rfl) rfl ev_int (ex_assign (d := .int 0) (by kernel_rfl) rfl ev_int (ex_assign (d := .int 0) (by kernel_rfl) rfl ev_int ?_)))
 refine ex_forN (ds := byteInts l) (by kernel_rfl) (src_of (d := .bytes l) ?_ iter_bytes) (fun i => [("quad_pos", .int (stA (l.take i)).1), ("leftchar", .int (stA (l.take i)).2.1), ("pads", .int 0), ("i", .int i), ("out", own a), ("strict_mode", .bool false)]) (fun i => [(a, .list (dints (stA (l.take i)).2.2))]) ?_ (OSub.refl _) (fun _ => rfl) ?_ ?_
 ·ac_rfl
 ·walk_at "subs"
  all_goals (first | rfl | (rw [List.take_zero]; rfl))
 ·intro i d hd Y
  have hd' : ∃ b, l[i]? = some b ∧ d = .int b.toNat := by
   simp only [byteInts, List.getElem?_map] at hd
   cases e : l[i]? with
   | none => rw [e] at hd; injection hd
   | some b => rw [e] at hd; (injection hd with y0; subst y0); exact ⟨b, rfl, rfl⟩
  refine el12 hd' fun b hb y0 => ?_; subst y0
  rw [stA_succ l i b hb]
  refine el02 (stA_ok (l.take i) fun b hb => hg b (List.mem_of_mem_take hb)) fun k k5 => ?_
  have hgb := hg b (List.mem_of_getElem? hb)
  have hlen : (l.take i).length ≤ 100 := by rw [List.length_take]; omega
  generalize stA (l.take i) = st at k k5
  obtain ⟨q, lf, o⟩ := st
  refine el06 k fun k1 k2 k3 k4 k6 k7 => ?_
  refine el03 hgb fun b0 b1 b2 => ?_
  simp only at k1 k2 k3 k4 k5 k6 k7
  unfold stepA
  dsimp only
  generalize hcv : (b.toNat : Int) = c at b0 b1 b2 ⊢
  generalize hbv : b64valF c = v at b1 b2 ⊢
  refine ex_if (c := false) (tstE (b := c == 61) ?_ (by simpa using b0)) (fun h => by injection h) (fun _ => ex_nil ?_)
  ·ac_rfl
  refine ex_assign (d := .int v) (by kernel_rfl) rfl (ev_call (f := 129) (ds := [.int c]) ?_ ?_ ?_ rfl (hbv ▸ (b64value_is hK c).le (by decide)) rfl) ?_
  ·ac_rfl
  ·rw [hK]; rfl
  ·ac_rfl
  refine ex_if (c := false) (tstE (b := decide (v ≥ 64)) ?_ (by simp; omega)) (fun h => by injection h) (fun _ => ex_nil ?_)
  ·ac_rfl
  refine ex_if (c := false) (tst_and_no (tst_plain (d := .int 0) rfl ?_ truth_int)) (fun h => by injection h) (fun _ => ex_nil ?_)
  ·ac_rfl
  refine ex_assign (d := .int 0) (by kernel_rfl) rfl ev_int ?_
  have hq : q = 0 ∨ q = 1 ∨ q = 2 ∨ q = 3 := by omega
  rcases hq with rfl | rfl | rfl | rfl
  ·refine ex_if (c := true) (tstE (b := ((0 : Nat) : Int) == 0) ?_ rfl) (fun _ => ?_) (fun h => by injection h)
   ·ac_rfl
   refine ex_assign (d := .int 1) (by kernel_rfl) rfl ev_int (ex_assign (d := .int v) (by kernel_rfl) rfl (by ac_rfl) (ex_nil ?_))
   refine ex_assign (d := .int (i + 1)) (by kernel_rfl) rfl (by ac_rfl) (ex_nil (ex_turn_end ?_ ?_))
   ·walk_at "subs"
    all_goals rfl
   ·simp only [noF, if_true, List.append_nil]; exact OSub.refl _
  ·have hlf := k3 rfl
   have e1 : lf * 2 ^ (2 : Int).toNat = lf * ((2 ^ 2 : Nat) : Int) := rfl
   have e2 : v.fdiv (2 ^ (4 : Int).toNat) = v / 16 := shr_nat 4 b1
   refine ex_if (c := false) (tstE (b := ((1 : Nat) : Int) == 0) ?_ rfl) (fun h => by injection h) (fun _ => ?_)
   ·ac_rfl
   refine ex_if (c := true) (tstE (b := ((1 : Nat) : Int) == 1) ?_ rfl) (fun _ => ?_) (fun h => by injection h)
   ·ac_rfl
   refine ex_assign (d := .int 2) (by kernel_rfl) rfl ev_int ?_
   refine ex_append (a := a) (ds := dints o) (d := .int (lf * 4 + v / 16)) ?_ (OSet.head _) (evAll_cons rfl (ev_eq (d' := .int (Builtin.bitOr (lf * 2 ^ (2 : Int).toNat) (v.fdiv (2 ^ (4 : Int).toNat)))) (ev_binop (ev_binop ?_ ev_int (bin_shl (by decide) (by decide) (by omega))) (ev_binop ?_ ev_int (bin_shr (by decide))) bin_or) ?_) evAll_nil) rfl (small (by rw [dints, List.length_map]; omega)) rfl rfl rfl ?_
   iterate 3 (·ac_rfl)
   ·rw [e1, e2, or_low 2 k2 (by constructor <;> (show _ ; omega))]; rfl
   refine ex_assign (d := .int (v % 16)) (by kernel_rfl) rfl (ev_eq (d' := .int (Builtin.bitAnd v 15)) (ev_binop ?_ ev_int bin_and) (by rw [and_15 b1])) (ex_nil (ex_nil ?_))
   ·ac_rfl
   refine ex_assign (d := .int (i + 1)) (by kernel_rfl) rfl (by ac_rfl) (ex_nil (ex_turn_end ?_ ?_))
   ·walk_at "subs"
    all_goals rfl
   ·have : dints (o ++ noF 1 lf v) = dints o ++ [.int (lf * 4 + v / 16)] := by simp [dints, noF]
    rw [this]; exact OSub.refl _
  ·have hlf := k4 rfl
   have e1 : lf * 2 ^ (4 : Int).toNat = lf * ((2 ^ 4 : Nat) : Int) := rfl
   have e2 : v.fdiv (2 ^ (2 : Int).toNat) = v / 4 := shr_nat 2 b1
   refine ex_if (c := false) (tstE (b := ((2 : Nat) : Int) == 0) ?_ rfl) (fun h => by injection h) (fun _ => ?_)
   ·ac_rfl
   refine ex_if (c := false) (tstE (b := ((2 : Nat) : Int) == 1) ?_ rfl) (fun h => by injection h) (fun _ => ?_)
   ·ac_rfl
   refine ex_if (c := true) (tstE (b := ((2 : Nat) : Int) == 2) ?_ rfl) (fun _ => ?_) (fun h => by injection h)
   ·ac_rfl
   refine ex_assign (d := .int 3) (by kernel_rfl) rfl ev_int ?_
   refine ex_append (a := a) (ds := dints o) (d := .int (lf * 16 + v / 4)) ?_ (OSet.head _) (evAll_cons rfl (ev_eq (d' := .int (Builtin.bitOr (lf * 2 ^ (4 : Int).toNat) (v.fdiv (2 ^ (2 : Int).toNat)))) (ev_binop (ev_binop ?_ ev_int (bin_shl (by decide) (by decide) (by omega))) (ev_binop ?_ ev_int (bin_shr (by decide))) bin_or) ?_) evAll_nil) rfl (small (by rw [dints, List.length_map]; omega)) rfl rfl rfl ?_
   iterate 3 (·ac_rfl)
   ·rw [e1, e2, or_low 4 k2 (by constructor <;> (show _ ; omega))]; rfl
   refine ex_assign (d := .int (v % 4)) (by kernel_rfl) rfl (ev_eq (d' := .int (Builtin.bitAnd v 3)) (ev_binop ?_ ev_int bin_and) (by rw [and_3 b1])) (ex_nil (ex_nil (ex_nil ?_)))
   ·ac_rfl
   refine ex_assign (d := .int (i + 1)) (by kernel_rfl) rfl (by ac_rfl) (ex_nil (ex_turn_end ?_ ?_))
   ·walk_at "subs"
    all_goals rfl
   ·have : dints (o ++ noF 2 lf v) = dints o ++ [.int (lf * 16 + v / 4)] := by simp [dints, noF]
    rw [this]; exact OSub.refl _
  ·have hlf := k6 rfl
   have e1 : lf * 2 ^ (6 : Int).toNat = lf * ((2 ^ 6 : Nat) : Int) := rfl
   refine ex_if (c := false) (tstE (b := ((3 : Nat) : Int) == 0) ?_ rfl) (fun h => by injection h) (fun _ => ?_)
   ·ac_rfl
   refine ex_if (c := false) (tstE (b := ((3 : Nat) : Int) == 1) ?_ rfl) (fun h => by injection h) (fun _ => ?_)
   ·ac_rfl
   refine ex_if (c := false) (tstE (b := ((3 : Nat) : Int) == 2) ?_ rfl) (fun h => by injection h) (fun _ => ?_)
   ·ac_rfl
   refine ex_assign (d := .int 0) (by kernel_rfl) rfl ev_int ?_
   refine ex_append (a := a) (ds := dints o) (d := .int (lf * 64 + v)) ?_ (OSet.head _) (evAll_cons rfl (ev_eq (d' := .int (Builtin.bitOr (lf * 2 ^ (6 : Int).toNat) v)) (ev_binop (ev_binop ?_ ev_int (bin_shl (by decide) (by decide) (by omega))) ?_ bin_or) ?_) evAll_nil) rfl (small (by rw [dints, List.length_map]; omega)) rfl rfl rfl ?_
   iterate 3 (·ac_rfl)
   ·rw [e1, or_low 6 k2 (by constructor <;> (show _ ; omega))]; rfl
   refine ex_assign (d := .int 0) (by kernel_rfl) rfl ev_int (ex_nil (ex_nil (ex_nil ?_)))
   refine ex_assign (d := .int (i + 1)) (by kernel_rfl) rfl (by ac_rfl) (ex_nil (ex_turn_end ?_ ?_))
   ·walk_at "subs"
    all_goals rfl
   ·have : dints (o ++ noF 3 lf v) = dints o ++ [.int (lf * 64 + v)] := by simp [dints, noF]
    rw [this]; exact OSub.refl _
 ·have hlen2 : (byteInts l).length = l.length := by simp [byteInts]
  rw [hlen2, List.take_length]
  refine el02 (stA_ok l hg) fun k k5 => ?_
  show Ex G _ _ [("quad_pos", .int (stA l).1), ("leftchar", .int (stA l).2.1), ("pads", .int 0), ("i", .int l.length), ("out", own a), ("strict_mode", .bool false)] [(a, .list (dints (stA l).2.2))] _ _
  rw [h0]
  refine el06 k fun _ _ _ _ _ k4 => ?_
  generalize (stA l).2.2 = out at k4 k5 ⊢
  refine ex_if (c := false) (tstE (b := ((0 : Nat) : Int) == 1) ?_ rfl) (fun h => by injection h) (fun _ => ex_nil ?_)
  ·ac_rfl
  refine ex_if (c := false) (tst_and_no (tstE (b := ((0 : Nat) : Int) != 0) ?_ rfl)) (fun h => by injection h) (fun _ => ex_nil ?_)
  ·ac_rfl
  refine ex_freeze "out" (a := a) (ds := dints out) (ow' := []) (by walk_at "lk") (List.mem_cons_self ..) OSub.nil (by simp) (fun _ => .nil) ha ?_
  refine ex_ret (d := .bytes (out.map fun (m : Int) => m.toNat.toUInt8)) ?_ rfl
  refine ev_callT (T := "bytes") (ds := [.list (dints out)]) ?_ ?_ rfl (fn_bytes k4 (small (by omega))) rfl
  iterate 2 (·ac_rfl)
theorem from_data_is (a b c d : Nat) (h : a < 128 ∧ b < 128 ∧ c < 128 ∧ d < 128) : FnIs G 30 (.ref 88) [.str [a, b, c, d]] (.bytes [a.toUInt8, b.toUInt8, c.toUInt8, d.toUInt8]) := by
 refine fn_K hK [("s", .str [a, b, c, d])] rfl rfl rfl ?_ rfl rfl rfl rfl rfl rfl rfl rfl ?_
 ·intro vs hv; refine el11 (len1 hv) fun a y0 => ?_; subst y0; kernel_rfl
 intro X L
 refine ex_if (c := true) (tst_plain (d := .bool true) rfl (ev_callB (id := "isinstance") (ds := [.str [a, b, c, d], .raw (.type "str")]) ?_ ?_ rfl tst_isinstance_str rfl) truth_bool) (fun _ => ?_) (fun h => by injection h)
 iterate 2 (·ac_rfl)
 refine ex_try ?_
 refine ex_ret (d := .bytes [a.toUInt8, b.toUInt8, c.toUInt8, d.toUInt8]) (ev_meth (d₀ := .str [a, b, c, d]) (ds := [.str (S "ascii")]) ?_ (meth_str F.slot_str_encode F.type_str_encode) (evAll_cons rfl ev_lit evAll_nil) rfl (fn_encode4 h) rfl) rfl
 ac_rfl
theorem b64decode_is (a b c d : Nat) (h : a < 128 ∧ b < 128 ∧ c < 128 ∧ d < 128) (hg : ∀ x ∈ [a.toUInt8, b.toUInt8, c.toUInt8, d.toUInt8], goodB x) (h0 : (stA [a.toUInt8, b.toUInt8, c.toUInt8, d.toUInt8]).1 = 0) : FnIs G 80 (.ref 161) [.str [a, b, c, d]] (.bytes ((stA [a.toUInt8, b.toUInt8, c.toUInt8, d.toUInt8]).2.2.map fun (m : Int) => m.toNat.toUInt8)) := by
 refine FnA.plain (fnA_K hK [("s", .str [a, b, c, d]), ("altchars", .none), ("validate", .bool false)] (fun vs ks => vs ++ [.none, .bool false]) rfl rfl rfl ?_ ?_ rfl rfl rfl rfl rfl rfl rfl rfl ?_)
 ·intro S vs ks hv hk; refine el11 (len1 hv) fun a y0 => ?_; subst y0; rw [len0 hk]; kernel_rfl
 ·intro X h vs ks r r'; exact r.append (.cons .none (.cons (.bool false) .nil))
 intro X L
 refine ex_assign (d := .bytes [a.toUInt8, b.toUInt8, c.toUInt8, d.toUInt8]) (by kernel_rfl) rfl (ev_call (f := 88) (ds := [.str [a, b, c, d]]) ?_ ?_ ?_ rfl ((from_data_is hK a b c d h).le (by decide)) rfl) ?_
 ·ac_rfl
 ·rw [hK]; rfl
 ·ac_rfl
 refine ex_if (c := false) (tst_cmp (n := 71) rfl (d₁ := .none) (d₂ := .none) ?_ ev_none (cmp_isnot_none rfl)) (fun h => by injection h) (fun _ => ex_nil ?_)
 ·ac_rfl
 refine ex_ret (d := .bytes ((stA [a.toUInt8, b.toUInt8, c.toUInt8, d.toUInt8]).2.2.map fun (m : Int) => m.toNat.toUInt8)) (ev_callK (f := 137) (ds := [.bytes [a.toUInt8, b.toUInt8, c.toUInt8, d.toUInt8]]) (kd := .bool false) ?_ ?_ ?_ rfl ?_ ((a2b_is hK _ (by simp) hg h0).le (by decide)) rfl) rfl
 ·ac_rfl
 ·rw [hK]; rfl
 iterate 2 (·ac_rfl)
end
theorem mulmod (x w : Nat) {a b : Nat} (h : w < a) : (x * a + w) % (a * b) = x % b * a + w := by
 rw [Nat.mod_mul, Nat.mul_comm x a, Nat.mul_add_mod, Nat.mod_eq_of_lt h, Nat.mul_add_div (Nat.lt_of_le_of_lt (Nat.zero_le _) h), Nat.div_eq_of_lt h, Nat.add_zero, Nat.add_comm, Nat.mul_comm]
theorem muldiv (x w : Nat) {a : Nat} (h : w < a) : (x * a + w) / a = x := by
 rw [Nat.mul_comm x a, Nat.mul_add_div (Nat.lt_of_le_of_lt (Nat.zero_le _) h), Nat.div_eq_of_lt h, Nat.add_zero]
theorem mulrem (x w : Nat) {a : Nat} (h : w < a) : (x * a + w) % a = w := by
 rw [Nat.mul_comm x a, Nat.mul_add_mod, Nat.mod_eq_of_lt h]
theorem mullt {x w a b : Nat} (hx : x < b) (h : w < a) : x * a + w < b * a := Nat.lt_of_lt_of_le (Nat.add_lt_add_left h _) (Nat.succ_mul x a ▸ Nat.mul_le_mul_right a hx)
theorem div4 {x : Nat} (h : x < 256) : x / 4 < 64 := Nat.div_lt_of_lt_mul h
theorem div16 {x : Nat} (h : x < 256) : x / 16 < 16 := Nat.div_lt_of_lt_mul h
theorem div64 {x : Nat} (h : x < 256) : x / 64 < 4 := Nat.div_lt_of_lt_mul h
theorem six2 {x y : Nat} (hy : y < 256) : x % 4 * 16 + y / 16 < 64 := mullt (b := 4) (Nat.mod_lt _ (by decide)) (div16 hy)
theorem six3 {y z : Nat} (hz : z < 256) : y % 16 * 4 + z / 64 < 64 := mullt (b := 16) (Nat.mod_lt _ (by decide)) (div64 hz)
theorem acc2 {A y : Nat} (hy : y < 256) : (A * 256 + y) % 65536 = A % 256 * 256 + y := mulmod A y (b := 256) hy
theorem encq {x : Nat} (hx : x < 256) : (0 * 256 + x) % 65536 = x := by rw [Nat.zero_mul, Nat.zero_add]; exact Nat.mod_eq_of_lt (Nat.lt_of_lt_of_le hx (by decide))
theorem enc1 {x : Nat} (hx : x < 256)  : (0 * 256 + x) % 65536 / 2 ^ 2 % 64 = x / 4 := by rw [encq hx]; exact Nat.mod_eq_of_lt (div4 hx)
theorem enc2 {x y : Nat} (hx : x < 256) (hy : y < 256) : ((0 * 256 + x) % 65536 * 256 + y) % 65536 / 2 ^ 4 % 64 = x % 4 * 16 + y / 16 := by
 rw [encq hx, acc2 hy, Nat.mod_eq_of_lt hx, show x * 256 + y = 16 * (x * 16) + y by rw [Nat.mul_comm 16, Nat.mul_assoc]]
 show (16 * (x * 16) + y) / 16 % (16 * 4) = _
 rw [Nat.mul_add_div (by decide), mulmod x _ (div16 hy)]
theorem enc3a {A y z : Nat} (hy : y < 256) (hz : z < 256) : ((A * 256 + y) % 65536 * 256 + z) % 65536 = y * 256 + z := by
 rw [acc2 hy, acc2 hz, mulrem _ _ hy]
theorem enc3 {A y z : Nat} (hy : y < 256) (hz : z < 256) : ((A * 256 + y) % 65536 * 256 + z) % 65536 / 2 ^ 6 % 64 = y % 16 * 4 + z / 64 := by
 rw [enc3a hy hz, show y * 256 + z = 64 * (y * 4) + z by rw [Nat.mul_comm 64, Nat.mul_assoc]]
 show (64 * (y * 4) + z) / 64 % (4 * 16) = _
 rw [Nat.mul_add_div (by decide), mulmod y _ (div64 hz)]
theorem enc4 {A y z : Nat} (hy : y < 256) (hz : z < 256) : ((A * 256 + y) % 65536 * 256 + z) % 65536 / 2 ^ 0 % 64 = z % 64 := by
 rw [enc3a hy hz, show y * 256 + z = 64 * (y * 4) + z by rw [Nat.mul_comm 64, Nat.mul_assoc], Nat.pow_zero, Nat.div_one, Nat.mul_add_mod]
theorem dec1 {x y : Nat} (hy : y < 256) : x / 4 * 4 + (x % 4 * 16 + y / 16) / 16 = x := by rw [muldiv _ _ (div16 hy), Nat.mul_comm, Nat.div_add_mod]
theorem dec2 {x y z : Nat} (hy : y < 256) (hz : z < 256) : (x % 4 * 16 + y / 16) % 16 * 16 + (y % 16 * 4 + z / 64) / 4 = y := by rw [mulrem _ _ (div16 hy), muldiv _ _ (div64 hz), Nat.mul_comm, Nat.div_add_mod]
theorem dec3 {y z : Nat} (hz : z < 256) : (y % 16 * 4 + z / 64) % 4 * 64 + z % 64 = z := by rw [mulrem _ _ (div64 hz), Nat.mul_comm, Nat.div_add_mod]
noncomputable def sixF (x y z : Nat) : List Nat := [x / 4, x % 4 * 16 + y / 16, y % 16 * 4 + z / 64, z % 64]
noncomputable def ALPHA : List Nat := S "ABCDEFGHIJKLMNOPQRSTUVWXYZabcdefghijklmnopqrstuvwxyz0123456789+/"
theorem alpha_all : ∀ s, s < 64 → ALPHA.getD s 0 = (B64.getD s 0).toNat ∧ ALPHA.getD s 0 < 128 ∧ ALPHA.idxOf (ALPHA.getD s 0) = s ∧ idxs (ALPHA.getD s 0) ALPHA = [s] ∧ b64valF ((ALPHA.getD s 0).toUInt8.toNat : Int) = s ∧ ((ALPHA.getD s 0).toUInt8.toNat : Int) ≠ 61 := by decide +kernel
theorem alpha_get (s : Nat) (h : s < 64) : ALPHA.getD s 0 = (B64.getD s 0).toNat ∧ ALPHA.getD s 0 < 128 ∧ ALPHA.idxOf (ALPHA.getD s 0) = s ∧ ∃ r, idxs (ALPHA.getD s 0) ALPHA = s :: r :=
 let ⟨h1, h2, h3, h4, _⟩ := alpha_all s h; ⟨h1, h2, h3, [], h4⟩
theorem b64_small (s : Nat) : (B64.getD s 0).toNat < 128 := by
 by_cases h : s < 64
 ·have := alpha_all s h; omega
 ·have hl : B64.length = 64 := by decide
  rw [List.getD_eq_getElem?_getD, List.getElem?_eq_none (by omega)]; decide
theorem six_small (x y z : Nat) (hx : x < 256) (hy : y < 256) (hz : z < 256) : ∀ s ∈ sixF x y z, s < 64 := by
 refine List.forall_mem_cons.mpr ⟨div4 hx, List.forall_mem_cons.mpr ⟨six2 hy, List.forall_mem_cons.mpr ⟨six3 hz, List.forall_mem_cons.mpr ⟨Nat.mod_lt _ (by decide), List.forall_mem_nil _⟩⟩⟩⟩
theorem u8_is {x : Nat} (h : x < 256) : (x.toUInt8.toNat : Int) = x := congrArg Nat.cast (show x % 256 = x from Nat.mod_eq_of_lt h)
theorem u8_back (u : UInt8) : ((u.toNat : Int)).toNat.toUInt8 = u := by simp
theorem six_enc (x y z : Nat) (hx : x < 256) (hy : y < 256) (hz : z < 256) : (stF [x.toUInt8, y.toUInt8, z.toUInt8]).2.1 = 0 ∧ (stF [x.toUInt8, y.toUInt8, z.toUInt8]).2.2.map (fun m => m.toNat.toUInt8) = (sixF x y z).map fun s => B64.getD s 0 := by
 have hX : (x.toUInt8.toNat : Int) = x := u8_is hx
 have hY : (y.toUInt8.toNat : Int) = y := u8_is hy
 have hZ : (z.toUInt8.toNat : Int) = z := u8_is hz
 refine ⟨by kernel_rfl, ?_⟩
 have e : (stF [x.toUInt8, y.toUInt8, z.toUInt8]).2.2 = [emitAt ((0 * 256 + (x.toUInt8.toNat : Int)) % 65536) 2, emitAt (((0 * 256 + (x.toUInt8.toNat : Int)) % 65536 * 256 + (y.toUInt8.toNat : Int)) % 65536) 4,
  emitAt ((((0 * 256 + (x.toUInt8.toNat : Int)) % 65536 * 256 + (y.toUInt8.toNat : Int)) % 65536 * 256 + (z.toUInt8.toNat : Int)) % 65536) 6, emitAt ((((0 * 256 + (x.toUInt8.toNat : Int)) % 65536 * 256 + (y.toUInt8.toNat : Int)) % 65536 * 256 + (z.toUInt8.toNat : Int)) % 65536) 0] := by kernel_rfl
 rw [e, hX, hY, hZ]
 simp only [emitAt, b64I, List.map_cons, List.map_nil, u8_back, sixF]
 have e1 : ((0 * 256 + (x : Int)) % 65536 / (2 ^ 2 : Nat) % 64).toNat = x / 4 := enc1 hx
 have e2 : (((0 * 256 + (x : Int)) % 65536 * 256 + y) % 65536 / (2 ^ 4 : Nat) % 64).toNat = x % 4 * 16 + y / 16 := enc2 hx hy
 have e3 : ((((0 * 256 + (x : Int)) % 65536 * 256 + y) % 65536 * 256 + z) % 65536 / (2 ^ 6 : Nat) % 64).toNat = y % 16 * 4 + z / 64 := enc3 hy hz
 have e4 : ((((0 * 256 + (x : Int)) % 65536 * 256 + y) % 65536 * 256 + z) % 65536 / (2 ^ 0 : Nat) % 64).toNat = z % 64 := enc4 hy hz
 rw [e1, e2, e3, e4]
theorem six_dec (x y z : Nat) (hx : x < 256) (hy : y < 256) (hz : z < 256) : (∀ u ∈ (sixF x y z).map fun s => (ALPHA.getD s 0).toUInt8, goodB u) ∧ (stA ((sixF x y z).map fun s => (ALPHA.getD s 0).toUInt8)).1 = 0 ∧
  (stA ((sixF x y z).map fun s => (ALPHA.getD s 0).toUInt8)).2.2.map (fun (m : Int) => m.toNat.toUInt8) = [x.toUInt8, y.toUInt8, z.toUInt8] := by
 have hs := six_small x y z hx hy hz
 refine ⟨fun u hu => ?_, by kernel_rfl, ?_⟩
 ·refine el12 (List.mem_map.mp hu) fun s h y0 => ?_; subst y0
  refine el06 (alpha_all s (hs s h)) fun _ _ _ _ h5 h6 => ?_
  have := hs s h
  exact ⟨h6, by rw [h5]; omega, by rw [h5]; omega⟩
 ·have hv : ∀ s ∈ sixF x y z, b64valF ((ALPHA.getD s 0).toUInt8.toNat : Int) = s := fun s h => (alpha_all s (hs s h)).2.2.2.2.1
  have h0 := hv (x / 4) (.head _)
  have h1 := hv (x % 4 * 16 + y / 16) (.tail _ (.head _))
  have h2 := hv (y % 16 * 4 + z / 64) (.tail _ (.tail _ (.head _)))
  have h3 := hv (z % 64) (.tail _ (.tail _ (.tail _ (.head _))))
  have e : (stA ((sixF x y z).map fun s => (ALPHA.getD s 0).toUInt8)).2.2 = [nlF 0 (b64valF ((ALPHA.getD (x / 4) 0).toUInt8.toNat : Int)) * 4 + b64valF ((ALPHA.getD (x % 4 * 16 + y / 16) 0).toUInt8.toNat : Int) / 16,
   nlF 1 (b64valF ((ALPHA.getD (x % 4 * 16 + y / 16) 0).toUInt8.toNat : Int)) * 16 + b64valF ((ALPHA.getD (y % 16 * 4 + z / 64) 0).toUInt8.toNat : Int) / 4,
   nlF 2 (b64valF ((ALPHA.getD (y % 16 * 4 + z / 64) 0).toUInt8.toNat : Int)) * 64 + b64valF ((ALPHA.getD (z % 64) 0).toUInt8.toNat : Int)] := by kernel_rfl
  rw [e, h0, h1, h2, h3]
  simp only [List.map_cons, List.map_nil]
  have e1 : (nlF 0 ((x / 4 : Nat) : Int) * 4 + ((x % 4 * 16 + y / 16 : Nat) : Int) / 16).toNat = x := dec1 hy
  have e2 : (nlF 1 ((x % 4 * 16 + y / 16 : Nat) : Int) * 16 + ((y % 16 * 4 + z / 64 : Nat) : Int) / 4).toNat = y := dec2 hy hz
  have e3 : (nlF 2 ((y % 16 * 4 + z / 64 : Nat) : Int) * 64 + ((z % 64 : Nat) : Int)).toNat = z := dec3 hz
  rw [e1, e2, e3]
noncomputable def drawnF (ns : List Int) : List Int := (ns.take 3).map fun i => i % 1000000
noncomputable def numbersF (ns : List Int) : List Int := drawnF ns ++ ([14457, 1636, 7339] : List Int).drop (drawnF ns).length
theorem numbers_three (ns : List Int) : ∃ a b c : Int, numbersF ns = [a, b, c] ∧ (0 ≤ a ∧ a < 1000000) ∧ (0 ≤ b ∧ b < 1000000) ∧ (0 ≤ c ∧ c < 1000000) := by
 unfold numbersF drawnF
 match ns with
 | [] => exact ⟨14457, 1636, 7339, rfl, by omega, by omega, by omega⟩
 | [a] => exact ⟨a % 1000000, 1636, 7339, rfl, by omega, by omega, by omega⟩
 | [a, b] => exact ⟨a % 1000000, b % 1000000, 7339, rfl, by omega, by omega, by omega⟩
 | a :: b :: c :: r => exact ⟨a % 1000000, b % 1000000, c % 1000000, rfl, by omega, by omega, by omega⟩
theorem bin_pow10 {k : Int} (h : 0 ≤ k ∧ k ≤ 1000000) : BinIs .Pow (.int 10) (.int k) (.int (10 ^ k.toNat)) := bin_pow h.1 h.2 (by decide)
theorem cut_takeA {α : Type} (l : List α) (k : Nat) : cut l none (some (k : Int)) = l.take k := by
 unfold cut
 simp only [Option.elim_none, Option.elim_some, List.drop_zero, Nat.sub_zero]
 have : clipAt l.length (k : Int) = min k l.length := clip_nat _ _
 rw [this, List.take_eq_take_iff]; omega
theorem cut_dropA {α : Type} (l : List α) (k : Nat) : cut l (some (k : Int)) none = l.drop k := by
 unfold cut
 simp only [Option.elim_none, Option.elim_some]
 have : clipAt l.length (k : Int) = min k l.length := clip_nat _ _
 rw [this]
 by_cases h : k ≤ l.length
 ·rw [Nat.min_eq_left h, List.take_of_length_le]; rw [List.length_drop]; exact Nat.le_refl _
 ·rw [Nat.min_eq_right (by omega), List.drop_length, List.drop_of_length_le (by omega), List.take_nil]
theorem cut_dints (ns : List Int) : cut (dints ns) none (some 3) = dints (ns.take 3) := by
 unfold dints
 rw [List.map_take]
 exact cut_takeA _ 3
theorem cov_of {cl : List (Str × Addr)} {ρ : Loc} (h : (cl.all fun p => (ρ.lookup p.1).isSome) = true) : ∀ y c, cl.lookup y = some c → ∃ d, ρ.lookup y = some d := fun y c e =>
 Option.isSome_iff_exists.mp (List.all_eq_true.mp h _ (mem_of_lookup e))
noncomputable def wordD (deck : List Nat) (v : Nat) : List Nat := [deck.getD (v / 16) 0, deck.getD (v / 4 % 4) 0, deck.getD (v % 4) 0]
noncomputable def natsD (l : List Nat) : List D := l.map fun v => D.int (v : Nat)
noncomputable def rowV (v : Nat) : D := .list [.int (v / 16 : Nat), .int (v / 4 % 4 : Nat), .int (v % 4 : Nat)]
noncomputable def tellV (d : D) : D := match d with
 | .list [.int a, .int b, .int c] => .str [ALPHA.getD (16 * a + 4 * b + c).toNat 0]
 | _ => .none
theorem tell_row (v : Nat) : tellV (rowV v) = .str [ALPHA.getD v 0] := by
 have e : (16 * ((v / 16 : Nat) : Int) + 4 * ((v / 4 % 4 : Nat) : Int) + ((v % 4 : Nat) : Int)).toNat = v := by omega
 show D.str [ALPHA.getD (16 * ((v / 16 : Nat) : Int) + 4 * ((v / 4 % 4 : Nat) : Int) + ((v % 4 : Nat) : Int)).toNat 0] = _
 rw [e]
theorem digits {v : Nat} (h : v < 64) : v / 16 < 4 ∧ v / 4 % 4 < 4 ∧ v % 4 < 4 := by omega
theorem machine_of {deck vs : List Nat} (h4 : deck.length = 4) (hn : deck.Nodup) (hs : ∀ c ∈ deck, c ∈ STOCK) (hv : vs.length = 4) (h64 : ∀ v ∈ vs, v < 64) : Machine deck (vs.map (wordD deck)) := by
 refine ⟨h4, hn, hs, by rw [List.length_map, hv], fun w hw => ?_⟩
 refine el12 (List.mem_map.mp hw) fun v hm y0 => ?_; subst y0
 refine el03 (digits (h64 v hm)) fun a b c => ?_
 refine ⟨rfl, fun x hx => ?_⟩
 refine Or.elim (List.mem_cons.mp hx) (fun e => ?_) (fun hx => ?_)
 ·exact e ▸ deck_mem h4 a
 ·refine Or.elim (List.mem_cons.mp hx) (fun e => ?_) (fun hx => ?_)
  ·exact e ▸ deck_mem h4 b
  ·exact List.mem_singleton.mp hx ▸ deck_mem h4 c
section
variable {deck vs : List Nat} (hM : Machine deck (vs.map (wordD deck))) (h64 : ∀ v ∈ vs, v < 64)
include hM h64
theorem row_at {i v : Nat} (hi : vs[i]? = some v) : .list (rowD (plc deck (stepM deck (vs.map (wordD deck)))) i) = rowV v := by
 have h4 : i < 4 := by have := (List.getElem?_eq_some_iff.mp hi).1; have h := hM.wlen; rw [List.length_map] at h; omega
 refine el03 (digits (h64 v (List.mem_of_getElem? hi))) fun a b c => ?_
 have hw : (vs.map (wordD deck)).getD i [] = wordD deck v := by rw [List.getD_eq_getElem?_getD, List.getElem?_map, hi]; rfl
 have key : ∀ l, plc deck (stepM deck (vs.map (wordD deck))) l i = deck.idxOf ((wordD deck v).getD (l % 3) 0) := fun l => by
  unfold plc stepM
  rw [idx_at hM h4, hw]
 have e0 := (key 0).trans (idx_at hM a)
 have e1 := (key 1).trans (idx_at hM b)
 have e2 := (key 2).trans (idx_at hM c)
 show D.list [.int _, .int _, .int _] = _
 rw [e0, e1, e2]; rfl
theorem places_is : placesD (plc deck (stepM deck (vs.map (wordD deck)))) = .list (vs.map rowV) := by
 have h := hM.wlen
 rw [List.length_map] at h
 unfold placesD
 refine congrArg D.list (List.ext_getElem (by rw [List.length_map, List.length_map, List.length_range, h]) fun i h1 h2 => ?_)
 rw [List.getElem_map, List.getElem_map, List.getElem_range]
 rw [List.length_map] at h2
 exact row_at hM h64 (List.getElem?_eq_getElem h2)
theorem idx_word {v : Nat} (hv : v ∈ vs) : rowV v = .list ((signs (wordD deck v)).map fun e => .int (deck.idxOf (e.s.headD 0) : Nat)) := by
 refine el03 (digits (h64 v hv)) fun a b c => ?_
 show _ = D.list [.int (deck.idxOf (deck.getD (v / 16) 0) : Nat), .int (deck.idxOf (deck.getD (v / 4 % 4) 0) : Nat), .int (deck.idxOf (deck.getD (v % 4) 0) : Nat)]
 rw [idx_at hM a, idx_at hM b, idx_at hM c]; rfl
end
theorem join_ones (h : Nat → Nat) (ws : List Nat) : joinL [] (ws.map fun w => [h w]) = ws.map h := by
 have e := joinL_ones (ws.map h)
 rwa [List.map_map] at e
theorem cmp_opt : ∀ r : Option Nat, CmpIs .Eq (optI r) (optI r) true
 | none => cmp_eq_data rfl rfl rfl rfl rfl
 | some k => by
  have h := cmp_eq_int (a := ((k : Nat) : Int)) (b := ((k : Nat) : Int))
  rwa [beq_self_eq_true] at h
theorem cmp_bools (a b : Bool) : CmpIs .Eq (.bool a) (.bool b) (a == b) := cmp_eq_data rfl rfl (by cases a <;> rfl) (by cases b <;> rfl) (by cases a <;> cases b <;> rfl)
section
variable {P : Params} {G : Gd} (hK : G.K = K02 P)
include hK
set_option maxHeartbeats 8000000
theorem law_is (ns : List Int) (hns : ns.length ≤ 1000) : FnG G 300 (.ref 278) [.list (dints ns)] [(201, pitL), (187, pit)] (fun d c' => d = .bool true ∧ (201, pitL) ∈ c' ∧ (187, pit) ∈ c') := by
 refine (fnG_K (n := 299) hK [("script", .list (dints ns))] [(201, pitL), (187, pit)] (R := fun d c' => d = .bool true ∧ (201, pitL) ∈ c' ∧ (187, pit) ∈ c') (R' := fun _ d _ c' => d = .bool true ∧ (201, pitL) ∈ c' ∧ (187, pit) ∈ c') rfl rfl rfl ?_ rfl rfl rfl rfl rfl rfl rfl rfl ?_ no_cells)
 ·intro vs hv; refine el11 (len1 hv) fun a y0 => ?_; subst y0; kernel_rfl
 intro G' hK' hH X L
 refine el34 (numbers_three ns) fun n0 n1 n2 hn hn0 hn1 hn2 => ?_
 refine ex_comp (ds := dints (ns.take 3)) (ρc := []) (out := dints (drawnF ns)) (by kernel_rfl) rfl (src_of (ev_eq (ev_cut_list (l := dints ns) ?_ evp_none (evp_some ev_int) ?_) ?_) iter_list) (fun _ => rfl) rfl (scopeOk_kind rfl) (scopeOk_names rfl) (scopeOk_cell rfl) ?_ (fun C da => ?_) ?_ ?_
 ·ac_rfl
 ·refine small (by simp [dints]; omega)
 ·rw [cut_dints]
 ·walk_at "fsubs"
 ·have e : dints (drawnF ns) = (dints (ns.take 3)).map fun d => D.int (d.i % 1000000) := by simp only [dints, drawnF, List.map_map]; rfl
  rw [e]
  refine loops_map _ rfl rfl fun d hd done => ?_
  refine el12 (mem_dints hd) fun v hv y0 => ?_; subst y0
  refine ev_binop (ev_callT (ds := [.int v]) ?_ ?_ rfl fn_int_int rfl) (ev_binop ev_int ev_int (bin_pow10 (by decide))) (bin_mod (by decide))
  iterate 2 (·ac_rfl)
 ·refine small (by simp [dints, drawnF]; omega)
 refine ex_assign (d := .list (dints [n0, n1, n2])) (by kernel_rfl) rfl (ev_eq (ev_binop ?_ (ev_cut_list (l := dints [14457, 1636, 7339]) (i := some ((drawnF ns).length : Int)) (j := none) (ev_list ?_ (by decide)) (evp_some (ev_eq (ev_callB (ds := [.list (dints (drawnF ns))]) ?_ ?_ rfl (fn_len_list ?_) rfl) ?_)) evp_none (by decide)) (bin_lists (a := dints (drawnF ns)) (b := cut (dints [14457, 1636, 7339]) (some ((drawnF ns).length : Int)) none) ?_)) ?_) ?_
 ·ac_rfl
 ·show EvAll _ _ _ _ _ _ [D.int 14457, D.int 1636, D.int 7339]
  ac_rfl
 iterate 2 (·ac_rfl)
 ·simp [dints, drawnF]; omega
 ·simp [dints]
 ·refine small ?_
  rw [cut_dropA]
  simp [dints, drawnF]; omega
 ·rw [cut_dropA, ← hn]; simp [dints, numbersF, List.map_drop]
 refine el11 (⟨(n0 % 256).toNat, by omega⟩ : ∃ x : Nat, n0 % 256 = (x : Int)) fun x hx => ?_
 refine el11 (⟨(n0 / 256 % 256).toNat, by omega⟩ : ∃ y : Nat, n0 / 256 % 256 = (y : Int)) fun y hy => ?_
 refine el11 (⟨(n1 % 256).toNat, by omega⟩ : ∃ z : Nat, n1 % 256 = (z : Int)) fun z hz => ?_
 have hx2 : x < 256 := by omega
 have hy2 : y < 256 := by omega
 have hz2 : z < 256 := by omega
 refine ex_assign (d := .bytes [x.toUInt8, y.toUInt8, z.toUInt8]) (by kernel_rfl) rfl (ev_eq (ev_callT (T := "bytes") (ds := [.list (dints [n0 % 256, n0 / 256 % 256, n1 % 256])]) ?_ (evAll_cons rfl (ev_list ?_ (by show 3 ≤ sizeLine; decide)) evAll_nil) rfl (fn_bytes ?_ ?_) rfl) ?_) ?_
 ·ac_rfl
 ·show EvAll _ _ _ _ _ _ [D.int (n0 % 256), D.int (n0 / 256 % 256), D.int (n1 % 256)]
  ac_rfl
  all_goals first | exact item_list (by decide) rfl (by decide) | decide
 ·intro m hm
  simp only [List.mem_cons, List.not_mem_nil, or_false] at hm
  omega
 ·show 3 ≤ sizeLine; decide
 ·rw [hx, hy, hz]; rfl
 refine ex_assign (d := .str (deckF n2)) (by kernel_rfl) rfl (ev_call (f := 220) (ds := [.int n2]) ?_ (by rw [hK']; kernel_rfl) ?_ rfl ((deck_is hK' n2 hn2.1).le (by decide)) rfl) ?_
 ·ac_rfl
 ·ac_rfl
  all_goals first | exact item_list (by decide) rfl (by decide) | decide
 refine el03 (deck_good hn2.1) fun hd4 hdn hds => ?_
 generalize deckF n2 = deck at *
 have hsix := six_small x y z hx2 hy2 hz2
 refine el02 (six_enc x y z hx2 hy2 hz2) fun he1 he2 => ?_
 have h64 : ∀ s : Nat, (B64.getD s 0).toNat < 128 := b64_small
 have hM := machine_of hd4 hdn hds (vs := sixF x y z) rfl hsix
 have hcs : ([(B64.getD (x / 4) 0).toNat, (B64.getD (x % 4 * 16 + y / 16) 0).toNat, (B64.getD (y % 16 * 4 + z / 64) 0).toNat, (B64.getD (z % 64) 0).toNat] : List Nat) = (sixF x y z).map fun s => ALPHA.getD s 0 := by
  simp only [sixF, List.map_cons, List.map_nil]
  rw [(alpha_get _ (hsix _ (.head _))).1, (alpha_get _ (hsix _ (.tail _ (.head _)))).1, (alpha_get _ (hsix _ (.tail _ (.tail _ (.head _))))).1, (alpha_get _ (hsix _ (.tail _ (.tail _ (.tail _ (.head _)))))).1]
 refine ex_comp (ds := signs ((sixF x y z).map fun s => ALPHA.getD s 0)) (ρc := []) (out := natsD (sixF x y z)) (by kernel_rfl) rfl (src_of (ev_eq (ev_meth (id := "bytes.decode") (d₀ := .bytes ((sixF x y z).map fun s => B64.getD s 0)) (ds := [.str (S "ascii")]) (ev_eq (ev_call (f := 153) (ds := [.bytes [x.toUInt8, y.toUInt8, z.toUInt8]]) ?_ (by rw [hK']; kernel_rfl) ?_ rfl ((b64encode_is hK' [x.toUInt8, y.toUInt8, z.toUInt8] (by simp) he1).le (by decide)) rfl) (by rw [he2])) (meth_bytes FB.plainAttrs_bytes FB.slot_bytes_decode FB.type_bytes_decode) ?_ rfl (fn_decode4 ⟨h64 _, h64 _, h64 _, h64 _⟩) rfl) (congrArg D.str hcs)) iter_str) (fun _ => rfl) rfl (scopeOk_kind rfl) (scopeOk_names rfl) (scopeOk_cell rfl) ?_ (fun C da => ?_) ?_ ?_
 iterate 3 (·ac_rfl)
 ·walk_at "fsubs"
 ·have e : natsD (sixF x y z) = (signs ((sixF x y z).map fun s => ALPHA.getD s 0)).map fun d => .int (ALPHA.idxOf (d.s.headD 0) : Nat) := by
   simp only [natsD, signs, List.map_map]
   refine List.map_congr_left fun s hs => ?_
   show D.int (s : Nat) = D.int (ALPHA.idxOf (ALPHA.getD s 0) : Nat)
   rw [(alpha_get s (hsix s hs)).2.2.1]
  rw [e]
  refine loops_map _ rfl rfl fun d hd done => ?_
  refine el12 (mem_signs hd) fun c hc y0 => ?_; subst y0
  refine el12 (List.mem_map.mp hc) fun s hs y0 => ?_; subst y0
  obtain ⟨h1, h2, h3, r, h4⟩ := alpha_get s (hsix s hs)
  show Ev _ _ _ _ _ _ (.int (ALPHA.idxOf (ALPHA.getD s 0) : Nat))
  rw [h3]
  refine ev_sindex rfl rfl (ev_call0 (f := 213) ?_ (by rw [hK']; kernel_rfl) ((alphabet_is hK').le (by decide)) rfl) ?_ h4
  iterate 2 (·ac_rfl)
 ·exact small (lenk (by kernel_rfl))
 refine ex_comp (ds := natsD (sixF x y z)) (ρc := [("deck", .str deck)]) (out := dstrs ((sixF x y z).map (wordD deck))) (by kernel_rfl) rfl (src_of ?_ iter_list) (fun _ => rfl) rfl (scopeOk_kind rfl) (scopeOk_names rfl) (scopeOk_cell rfl) ?_ (fun C da => ?_) ?_ ?_
 ·ac_rfl
 ·walk_at "fsubs"
 ·have e : dstrs ((sixF x y z).map (wordD deck)) = (natsD (sixF x y z)).map fun d => .str (wordD deck d.i.toNat) := by
   simp only [natsD, dstrs, List.map_map]; rfl
  rw [e]
  refine loops_map _ rfl rfl fun d hd done => ?_
  refine el12 (List.mem_map.mp hd) fun v hv y0 => ?_; subst y0
  refine el03 (digits (hsix v hv)) fun a1 a2 a3 => ?_
  have at_ : ∀ i, i < 4 → deck[i]? = some (deck.getD i 0) := fun i hi => by rw [List.getD_eq_getElem?_getD, List.getElem?_eq_getElem (by omega)]; rfl
  show Ev G' _ _ [("value", .int (v : Nat)), ("deck", .str deck)] _ _ (.str (wordD deck v))
  refine ev_eq (d' := .str ([deck.getD (v / 16) 0] ++ [deck.getD (v / 4 % 4) 0] ++ [deck.getD (v % 4) 0])) (ev_binop (ev_binop (ev_item rfl ?_ (ev_eq (d' := .int ((v : Int) / 16)) (ev_binop ?_ ev_int (bin_div' (by decide))) rfl) (itemS (i := v / 16) (at_ _ a1) (by omega))) (ev_item rfl ?_ (ev_eq (d' := .int ((v : Int) / 4 % 4)) (ev_binop (ev_binop ?_ ev_int (bin_div' (by decide))) ev_int (bin_mod (by decide))) rfl) (itemS (i := v / 4 % 4) (at_ _ a2) (by omega))) (bin_cat' (by show 1 + 1 ≤ _; decide))) (ev_item rfl ?_ (ev_eq (d' := .int ((v : Int) % 4)) (ev_binop ?_ ev_int (bin_mod (by decide))) rfl) (itemS (i := v % 4) (at_ _ a3) (by omega))) (bin_cat' (by show 2 + 1 ≤ _; decide))) rfl
  iterate 6 (·ac_rfl)
 ·exact small (lenk (by kernel_rfl))
 generalize hws : (sixF x y z).map (wordD deck) = ws at *
 have hw4 : ws.length = 4 := hM.wlen
 have hw3 : ∀ w ∈ ws, w.length = 3 := fun w hw => (hM.word w hw).1
 have hmn : 0 ≤ n1 / 256 := by omega
 refine ex_assign (d := .str (textF (n1 / 256) ws)) (by kernel_rfl) rfl (ev_call (f := 225) (ds := [.list (dstrs ws), .int (n1 / 256)]) ?_ (by rw [hK']; kernel_rfl) ?_ rfl ((text_is hK' (n1 / 256) hmn ws (by omega) fun w hw => by have := hw3 w hw; omega).le (by decide)) rfl) ?_
 ·ac_rfl
 ·ac_rfl
  all_goals first | exact item_list (ds := dints [n0, n1, n2]) (by decide) rfl (by decide) | decide
 have htl : (textF (n1 / 256) ws).length ≤ 1000 := text_len _ _ (by omega) fun w hw => by have := hw3 w hw; omega
 refine el02 (lex_all (n1 / 256) ws 4 hw4 fun w hw z => by have := hw3 w hw; rw [z] at this; cases this) fun htok hline => ?_
 generalize htext : textF (n1 / 256) ws = text at *
 refine ex_assignG (by kernel_rfl) rfl (evG_call (c := [(201, pitL)]) (r := [(187, pit)]) (f := 206) (ds := [.str text]) ?_ (by rw [hK']; kernel_rfl) ?_ rfl ((lexer_is hK' text).le (by decide)) rfl) ?_
 iterate 2 (·ac_rfl)
 intro d w y0; refine el12 y0 fun c' y0 => ?_; refine el12 y0 fun lx y0 => ?_; subst y0; intro y0; subst y0; intro y0; subst y0; intro hfresh
 have htok4 : (List.range 4).map (tokAt text) = ws ∧ tokAt text 4 = [] := by
  rw [List.range_succ, List.map_append] at htok
  exact ⟨(List.append_inj' htok rfl).1, List.singleton_inj.mp (List.append_inj' htok rfl).2⟩
 refine ex_compG (ρc := [("lexer", .inst 76 lx.dl)]) (ds := zs 0 4) (outs := dstrs ((List.range 4).map (tokAt text))) (fun i => lexOwn P lx text (posF text i) [] ++ [(lx.spb, .list []), (201, pitL), (187, pit)]) (by kernel_rfl) rfl (src_of (ev_callT (d := .rng 0 4) ?_ ?_ rfl fn_range1 rfl) (iter_rng rfl)) (fun _ => rfl) rfl (scopeOk_kind rfl) (scopeOk_names rfl) (scopeOk_cell rfl) ?_ (cov_of (by kernel_rfl)) rfl (fun _ => rfl) rfl (fun C DA i d d' hd hd' => ?_) ?_ ?_
 iterate 2 (·ac_rfl)
 ·walk_at "fsubs"
 ·have hd2 : d' = .str (tokAt text i) := by
   simp only [dstrs, List.getElem?_map, List.map_map] at hd'
   have hi : i < 4 := by
    refine Or.elim (Nat.lt_or_ge i 4) (fun h => ?_) (fun h => ?_)
    ·exact h
    ·rw [List.getElem?_eq_none (by simpa using h)] at hd'; injection hd'
   rw [List.getElem?_range hi] at hd'
   exact (Option.some.inj hd').symm
  subst hd2
  refine turnG_name rfl rfl (EvG.inn (ow' := lexOwn P lx text (posF text i) [] ++ (DA, .list ((dstrs ((List.range 4).map (tokAt text))).take i)) :: [(lx.spb, .list []), (201, pitL), (187, pit)]) (osub_mid _ _ _) (keys_mid _ _ _).mpr (EvG.own (evG_imeth0 (C := 76) (dx := lx.dl) (f := 66) (fs := lexNs 76 (lineF text (posF text i)) (.inst 76 lx.ds) lx.pb) (c := lexOwn P lx text (posF text i) []) (r := (DA, .list ((dstrs ((List.range 4).map (tokAt text))).take i)) :: [(lx.spb, .list []), (201, pitL), (187, pit)]) rfl ?_ ?_ rfl (by rw [hK']; kernel_rfl) (by rw [hK']; kernel_rfl) (by rw [hK']; kernel_rfl) ((get_is hK' lx text htl (posF text i) (tokAt text i) (posF text (i + 1)) rfl rfl).le (by decide))) ?_))
  ·ac_rfl
  ·simp
  ·intro d w y0; refine el12 y0 fun c' y0 => ?_; refine el02 y0 fun y0 => ?_; subst y0; intro y0; subst y0; intro y0; subst y0
   exact ⟨_, ⟨rfl, rfl⟩, osub_front _ _ _, (keys_mid _ _ _).mp⟩
 ·exact small (lenk (by kernel_rfl))
 rw [htok4.1]
 show Ex G' 299 (callEnvC (fnAt (K02 P) 278) L 278) _ (lexOwn P lx text (posF text 4) [] ++ [(lx.spb, .list []), (201, pitL), (187, pit)]) _ _
 refine ex_if_cmpG (n := 291) rfl (evG_tup3 (d₁ := .list (dstrs ws)) (R := fun d₂ d₃ w => d₂ = .str [] ∧ d₃ = .int (1 + (text.count 10 : Nat)) ∧ w = lexOwn P lx text (posF text 5) [] ++ [(lx.spb, .list []), (201, pitL), (187, pit)]) rfl rfl rfl ?_ (evG_imeth0 (C := 76) (dx := lx.dl) (f := 66) (fs := lexNs 76 (lineF text (posF text 4)) (.inst 76 lx.ds) lx.pb) (c := lexOwn P lx text (posF text 4) []) (r := [(lx.spb, .list []), (201, pitL), (187, pit)]) rfl ?_ ?_ rfl (by rw [hK']; kernel_rfl) (by rw [hK']; kernel_rfl) (by rw [hK']; kernel_rfl) ((get_is hK' lx text htl (posF text 4) [] (posF text 5) htok4.2 rfl).le (by decide))) ?_) ?_
 iterate 2 (·ac_rfl)
 ·simp
 ·intro d₂ w y0; refine el12 y0 fun c' y0 => ?_; refine el02 y0 fun y0 => ?_; subst y0; intro y0; subst y0; intro y0; subst y0
  refine ⟨_, ev_attr (C := 76) (dx := lx.dl) (fs := lexNs 76 (lineF text (posF text 5)) (.inst 76 lx.ds) lx.pb) (d := .int (1 + (text.count 10 : Nat))) rfl ?_ ?_ ?_ (by rw [hK']; kernel_rfl) (by rw [hK']; kernel_rfl) rfl, rfl, rfl, rfl⟩
  ·ac_rfl
  ·simp
  ·rw [hline]; rfl
 intro _ _ y0; refine el24 y0 fun _ _ y0 => ?_; subst y0; intro y0; subst y0; intro y0; subst y0; intro y0; subst y0
 refine ⟨.tup [.list (dstrs ws), .str [], .int (1 + (text.count 10 : Nat))], false, ev_tup (evAll_cons rfl ?_ (evAll_cons rfl (ev_litE rfl) (evAll_cons rfl (ev_binop ev_int (ev_count (l := text) (c := 10) rfl rfl ?_ (ev_litE rfl)) bin_add) evAll_nil))) (by show 3 ≤ sizeLine; decide), cmp_ne_told3 ws _ (fun l hl => ?_) (by omega) ?_, (fun h => by injection h), fun _ => ex_nil ?_⟩
 iterate 2 (·ac_rfl)
 ·refine el02 (hM.word l hl) fun h1 h2 => ?_
  exact ⟨by omega, fun c hc => hM.small (h2 c hc)⟩
 ·have := List.count_le_length (a := 10) (l := text)
  omega
 refine ex_own (ow' := [(201, pitL), (187, pit)]) (fun p hp => ?_) (fun _ => by decide) ?_
 ·simp only [List.mem_cons, List.not_mem_nil, or_false] at hp
  focus (refine Or.elim hp (fun y0 => ?_) (fun y0 => ?_); subst y0; rotate_left; subst y0; rotate_left) <;> simp
 have hsixM := hsix
 generalize hvs : sixF x y z = vs at *
 refine ex_comp (ds := dstrs ws) (ρc := [("deck", .str deck)]) (out := vs.map rowV) (by kernel_rfl) rfl (src_of ?_ iter_list) (fun _ => rfl) rfl (scopeOk_kind rfl) (scopeOk_names rfl) (scopeOk_cell rfl) ?_ (fun C da => ?_) ?_ ?_
 ·ac_rfl
 ·walk_at "fsubs"
 ·have e : vs.map rowV = (dstrs ws).map fun d => .list ((signs d.s).map fun e => .int (deck.idxOf (e.s.headD 0) : Nat)) := by
   rw [← hws, dstrs, List.map_map, List.map_map]
   refine List.map_congr_left fun v hv => ?_
   exact idx_word (vs := vs) (by rw [hws]; exact hM) hsix hv
  rw [e]
  refine loops_map _ rfl rfl fun d hd done => ?_
  refine el12 (mem_dstrs hd) fun w hw y0 => ?_; subst y0
  show Ev G' _ _ [("word", .str w), ("deck", .str deck)] _ _ (.list ((signs w).map fun e => .int (deck.idxOf (e.s.headD 0) : Nat)))
  refine ev_comp (ds := signs w) (ρc := [("deck", .str deck)]) (src_of ?_ iter_str) (fun _ => rfl) rfl (scopeOk_kind rfl) (scopeOk_names rfl) (scopeOk_cell rfl) ?_ (fun C' da' => loops_map _ rfl rfl fun d hd done' => ?_) (small (by rw [List.length_map, signs_len, hw3 w hw]; decide))
  ·ac_rfl
  ·walk_at "fsubs"
  ·refine el12 (mem_signs hd) fun c hc y0 => ?_; subst y0
   show Ev _ _ _ [("name", .str [c]), ("deck", .str deck)] _ _ (.int (deck.idxOf c : Nat))
   refine ev_sindex rfl rfl ?_ ?_ (idxs_nodup hdn ((hM.word w hw).2 c hc))
   iterate 2 (·ac_rfl)
 ·exact small (by rw [List.length_map, ← hvs]; exact Nat.le_of_ble_eq_true rfl)
 have hvl : vs.length = 4 := by rw [← hvs]; rfl
 refine ex_assign (d := .str (vs.map fun s => ALPHA.getD s 0)) (by kernel_rfl) rfl (ev_eq (ev_join (ps := vs.map fun s => [ALPHA.getD s 0]) rfl rfl (ev_litE (l := []) rfl) (ev_comp (ds := vs.map rowV) (ρc := []) (out := dstrs (vs.map fun s => [ALPHA.getD s 0])) (src_of ?_ iter_list) (fun _ => rfl) rfl (scopeOk_kind rfl) (scopeOk_names rfl) (scopeOk_cell rfl) ?_ (fun C da => ?_) (small (by rw [dstrs, List.length_map, List.length_map, hvl]; decide))) ?_) (by rw [join_ones])) ?_
 ·ac_rfl
 ·walk_at "fsubs"
 ·rw [dstrs, List.map_map]
  refine loops_lmap3 (as := vs) (fun v => .int (v / 16 : Nat)) (fun v => .int (v / 4 % 4 : Nat)) (fun v => .int (v % 4 : Nat)) (fun v => .str [ALPHA.getD v 0]) rfl rfl rfl rfl rfl rfl tellV (fun v _ => tell_row v) fun v hv done => ?_
  have hv64 := hsix v hv
  refine ev_item rfl (ev_call0 (f := 213) ?_ (by rw [hK']; kernel_rfl) ((alphabet_is hK').le (by decide)) rfl) (ev_eq (d' := .int (16 * ((v / 16 : Nat) : Int) + 4 * ((v / 4 % 4 : Nat) : Int) + ((v % 4 : Nat) : Int))) (ev_binop (ev_binop (ev_binop ev_int ?_ (bin_mul (.of_left (by decide)))) (ev_binop ev_int ?_ (bin_mul (.of_left (by decide)))) bin_add) ?_ bin_add) (congrArg D.int (show _ = ((v : Nat) : Int) by omega))) (itemS (l := ALPHA) (i := v) ?_ (by decide))
  iterate 4 (·ac_rfl)
  ·rw [List.getD_eq_getElem?_getD, List.getElem?_eq_getElem (by rw [show ALPHA.length = 64 from by decide]; exact hv64)]; rfl
 ·rw [List.map_map, ← hvs]; exact Nat.le_of_ble_eq_true rfl
 refine el03 (six_dec x y z hx2 hy2 hz2) fun g1 g2 g3 => ?_
 have hal : ∀ s, s < 64 → ALPHA.getD s 0 < 128 := fun s hs => (alpha_get s hs).2.1
 subst hvs
 refine ex_if_no (tstE (tst_cmp (n := 291) (d₁ := .bytes [x.toUInt8, y.toUInt8, z.toUInt8]) (d₂ := .bytes [x.toUInt8, y.toUInt8, z.toUInt8]) rfl (ev_eq (ev_call (f := 161) (ds := [.str [ALPHA.getD (x / 4) 0, ALPHA.getD (x % 4 * 16 + y / 16) 0, ALPHA.getD (y % 16 * 4 + z / 64) 0, ALPHA.getD (z % 64) 0]]) ?_ (by rw [hK']; kernel_rfl) ?_ rfl ((b64decode_is hK' _ _ _ _ ⟨hal _ (by omega), hal _ (by omega), hal _ (by omega), hal _ (by omega)⟩ g1 g2).le (by decide)) rfl) (congrArg D.bytes g3)) ?_ cmp_ne_bytes) (bne_self_eq_false _)) (ex_nil ?_)
 ·ac_rfl
 ·show EvAll _ _ _ _ _ _ [D.str ((sixF x y z).map fun s => ALPHA.getD s 0)]
  ac_rfl
 ·ac_rfl
 refine ex_assignG (by kernel_rfl) rfl (evG_call (c := [(201, pitL)]) (r := [(187, pit)]) (f := 256) (ds := [.str deck, .list (dstrs ws)]) ?_ (by rw [hK']; kernel_rfl) ?_ rfl ((forth_is hK' hM).le (by decide)) rfl) ?_
 iterate 2 (·ac_rfl)
 intro _ _ y0; refine el12 y0 fun _ y0 => ?_; refine el02 y0 fun y0 => ?_; refine el12 y0 fun r₁ hr₁ y0 => ?_; subst y0; intro y0; subst y0; intro y0; subst y0; intro _
 have hpl := places_is (vs := sixF x y z) (by rw [hws]; exact hM) hsix
 rw [hws] at hpl
 refine ex_retG (evG_and (R₁ := fun d w => d = .bool true ∧ w = [(201, pitL), (187, pit)]) (R := fun d w => d = .bool true ∧ w = [(201, pitL), (187, pit)]) (evG_cmp (n := 291) (d₁ := optI r₁) rfl ?_ (evG_call (c := [(201, pitL), (187, pit)]) (r := []) (f := 261) (ds := [.str deck, .list (dstrs ws)]) ?_ (by rw [hK']; kernel_rfl) ?_ rfl ((back_is hK' hM).le (by decide)) rfl) ?_) ?_) ?_
 iterate 3 (·ac_rfl)
 ·intro _ _ y0; refine el12 y0 fun _ y0 => ?_; refine el02 y0 fun y0 => ?_; refine el12 y0 fun r₂ hr₂ y0 => ?_; subst y0; intro y0; subst y0; intro y0; subst y0
  obtain rfl := res_one hr₁ hr₂
  exact ⟨true, cmp_opt r₁, rfl, rfl⟩
 ·intro _ _ y0; refine el02 y0 fun y0 => ?_; subst y0; intro y0; subst y0
  refine ⟨rfl, .bool true, ?_, rfl, rfl⟩
  have hmeet := (meet_syn hM.mem hdn hd4).trans (res_some hr₁).symm
  refine ev_eq (ev_cmp (n := 291) (d₁ := .bool (!isNone (optI r₁))) (d₂ := .bool (decide ((metF (plc deck (stepM deck ws)) 6).length = 6))) rfl (ev_cmp (n := 291) (d₁ := optI r₁) rfl ?_ ev_none (cmp_isnot_none (by cases r₁ <;> rfl))) (ev_call (f := 273) (ds := [placesD (plc deck (stepM deck ws))]) ?_ (by rw [hK']; kernel_rfl) ?_ rfl ((meet_is hK' (plc deck (stepM deck ws))).le (by decide)) rfl) (cmp_bools _ _)) ?_
  iterate 2 (·ac_rfl)
  ·rw [hpl]
   ac_rfl
  ·refine congrArg D.bool (beq_iff_eq.mpr ?_)
   cases r₁ with
   | none => exact (decide_eq_false fun h => hmeet.mp h rfl).symm
   | some k => exact (decide_eq_true (hmeet.mpr (Option.some_ne_none k))).symm
 ·intro _ _ y0; refine el02 y0 fun y0 => ?_; subst y0; intro y0; subst y0
  exact ⟨rfl, by simp, by simp⟩
end
theorem ints_of {P : Params} {h : Heap} {X : List Addr} : ∀ {vs : List Value} {xs : List WData}, WellAll P h vs xs → WShape.hasItems [] xs .int = true → ∃ ns : List Int, RepAll X h vs (dints ns) ∧ ns.length = xs.length
 | _, [], w, _ => by cases w; exact ⟨[], .nil, rfl⟩
 | _, d :: xs, w, hs => by
  cases w with | cons x r =>
  simp only [WShape.hasItems, Bool.and_eq_true] at hs
  refine el11 (hasW_int hs.1) fun i y0 => ?_; subst y0
  cases x with | int _ t =>
  obtain ⟨ns, h1, h2⟩ := ints_of r hs.2
  exact ⟨i :: ns, .cons (.int i t) h1, by rw [List.length_cons, List.length_cons, h2]⟩
set_option tactic.hygienic true in
theorem join02 : PySem.Challenge.rw_kq0063_02.Holds := hd02 fun w s₀ s₁ mg mb G Y a o pm cd doc dV kV ho hod hcd hdf hmg hgens args vals as hpre hlay hreads hwell hlow => by
 have X1 : (K02 w.params).In s₁.heap := km_in_of Y
 have ht := km_tabs_of Y
 have hT : TabsAt [(191, 187), (205, 201)] s₁.heap := fun q hq => by
  simp only [List.mem_cons, List.not_mem_nil, or_false] at hq
  focus (refine Or.elim hq (fun y0 => ?_) (fun y0 => ?_); subst y0; rotate_left; subst y0; rotate_left)
  ·exact ⟨codeHd_of_K X1 (by kernel_rfl), ht 187 (by simp)⟩
  ·exact ⟨codeHd_of_K X1 (by kernel_rfl), ht 201 (by simp)⟩
 refine el02 (pre_splitW hpre) fun hsh hpr => ?_
 refine el23 (hasAllW_cons (R := []) (e := .list .int) (es := []) hsh) fun d r y0 => ?_; subst y0; intro hd hr
 obtain rfl := hasAllW_nil hr
 refine el12 (hasW_list hd) fun xs y0 => ?_; subst y0; intro hxs
 have hlen : xs.length ≤ 63 := by
  have h2 : (WTm.holds [] (.and (.not (.lt (.lit (.int 63)) (.len (.arg 0)))) (.lit (.bool true))) { args := [WData.list xs] }) = true := hpr
  clear hpr hpre hcd hod hdf Y G hreads
  unfold WTm.holds at h2
  rw [w_and (w_not (w_lt w_lit (w_len_list (w_arg rfl)))) w_lit] at h2
  by_cases h : (63 : Int) < xs.length
  ·rw [decide_eq_true h] at h2
   exact absurd (show false = true from h2) (by decide)
  ·omega
 cases hwell with | cons hw hw2 =>
 cases hw2
 cases hw with | list hl hwa =>
 rename_i l us
 let Gd1 : Gd := { K := K02 w.params, prog := PySem.Challenge.rw_kq0063_02.row.toRowW.prog, w := w, p := topProg, loose := _, mean := _, mg := mg, mb := mb, H₀ := ghostOf s₁.heap [(191, 187), (205, 201)], X := ghost_K hT X1 (by kernel_rfl), T := ghost_top hT G.T }
 have h187 := ht 187 (by simp)
 have h201 := ht 201 (by simp)
 have hl1 : l ∉ ([201, 187] : List Addr) := fun q => by
  simp only [List.mem_cons, List.not_mem_nil, or_false] at q
  focus (refine Or.elim q (fun y0 => ?_) (fun y0 => ?_); subst y0; rotate_left; subst y0; rotate_left)
  ·rw [hl] at h201; cases h201
  ·rw [hl] at h187; cases h187
 refine el12 (ints_of (X := [201, 187]) hwa hxs) fun ns hra hns => ?_
 have hlaw := law_is (G := Gd1) rfl ns (by omega)
 have ha : a = 278 := by
  have e1 := mg_of (n := "law") X1 G.T.g (v := .ref 278) (by kernel_rfl)
  rw [name02] at hmg
  rw [hmg] at e1
  injection e1 with e1; injection e1
 subst ha
 refine wpAny_mono (hlaw.go [201, 187] callerA s₁ _ [.ref l] ⟨rfl, by decide, by decide⟩ (fun b o e => of_hideAll _ e) (fun b hb => ?_) (.cons (.list ⟨_, hl⟩ hl1 hra) .nil) ⟨fun p hp => ?_, by simp, fun b hb => hideAll_none _ ?_⟩) (fun v s' q => ?_) fun _ _ h => h
 ·simp only [List.mem_cons, List.not_mem_nil, or_false] at hb
  focus (refine Or.elim hb (fun y0 => ?_) (fun y0 => ?_); subst y0; rotate_left; subst y0; rotate_left)
  ·exact ⟨_, h201⟩
  ·exact ⟨_, h187⟩
 ·simp only [List.mem_cons, List.not_mem_nil, or_false] at hp
  focus (refine Or.elim hp (fun y0 => ?_) (fun y0 => ?_); subst y0; rotate_left; subst y0; rotate_left)
  ·exact ⟨⟨#[], h201, by constructor, fun pos cv q h1 h2 => (by injection h1)⟩, by simp⟩
  ·exact ⟨⟨#[], h187, by constructor, fun pos cv q h1 h2 => (by injection h1)⟩, by simp⟩
 ·simp only [keysOf, List.map_cons, List.map_nil, List.mem_cons, List.not_mem_nil, or_false] at hb ⊢
  exact hb.symm
 ·obtain ⟨d, c', X', ⟨rfl, hm1, hm2⟩, rep, L⟩ := q
  refine Rep.eBool rep ?_
  have keep : ∀ b o, b ≠ 187 → b ≠ 201 → s₁.heap.get? b = some o → s'.heap.get? b = some o := fun b o n1 n2 e => L.keep.heap b o (fun q => by
   simp only [keysOf, List.map_cons, List.map_nil, List.mem_cons, List.not_mem_nil, or_false] at q
   refine Or.elim q (fun q => ?_) (fun q => ?_)
   ·exact n2 q
   ·exact n1 q) e
  refine el12 ((L.owns.all _ hm1).1) fun ps1 g1 _ => ?_
  refine el12 ((L.owns.all _ hm2).1) fun ps2 g2 _ => ?_
  refine ⟨.inl ⟨_, .bool true, [], rfl, fun _ => rfl, .bool true, ?_, fun _ => ⟨.nil, fun a ha => by cases ha⟩⟩, ⟨fun b o e => ?_, fun b o e => ?_⟩, L.keep.same.os, ?_⟩
  ·show WTm.holds [] (.eq .res (.lit (.bool true))) _ = true
   unfold WTm.holds
   rw [w_eq_bool (w_res rfl) w_lit]
   kernel_rfl
  ·by_cases n1 : b = 187
   ·subst n1
    rw [h187] at e; (injection e with y0; subst y0)
    exact .inr (.inl ⟨((hT (191, 187) (by simp)).1.tab h187).isCodeTable, rfl, #[], ps2, rfl, by rw [Array.empty_append]; exact g2⟩)
   ·by_cases n2 : b = 201
    ·subst n2
     rw [h201] at e; (injection e with y0; subst y0)
     exact .inr (.inl ⟨((hT (205, 201) (by simp)).1.tab h201).isCodeTable, rfl, #[], ps1, rfl, by rw [Array.empty_append]; exact g1⟩)
    ·exact .inl (keep b o n1 n2 e)
  ·by_cases n1 : b = 187
   ·exact ⟨_, n1 ▸ g2⟩
   ·by_cases n2 : b = 201
    ·exact ⟨_, n2 ▸ g1⟩
    ·exact ⟨o, keep b o n1 n2 e⟩
  ·exact L.keep.same.bare (.of_eq hgens)
end Mine
end
theorem PySem.Challenge.cw_kq0063_02_holds : PySem.Challenge.rw_kq0063_02.Holds := by
  exact Mine.join02
