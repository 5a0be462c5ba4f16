import PyProof.Rows.All
import Wide.All
import OpenK.AllK
import Wide.FinOn
import Lean
import PySem.Challenge.RW_kq0063_01
open PySem PySem.W PySem.Calls PyProof.Rows
set_option Elab.async false
set_option autoImplicit false
set_option linter.unusedVariables false
set_option linter.unusedSimpArgs false
set_option linter.unusedSectionVars false
set_option maxRecDepth 100000
namespace Mine

local macro_rules | `(tactic| o_head $_) => `(tactic| skip)
set_option maxHeartbeats 8000000 in
theorem kd (h : PySem.Challenge.rw_kq0063_01.row.Holds) : PySem.Challenge.rw_kq0063_01.row.Holds := by
  k_head
  exact h
noncomputable section
noncomputable abbrev K01 : Params → Frag := Mine.kd.heap_1
noncomputable abbrev pw01 : Program := PySem.Challenge.pw_kq0063_01
noncomputable def as01 : List Addr := [2, 3, 32, 34, 35, 37, 38, 42, 43, 44, 46, 47, 49, 50, 52, 56, 58, 59, 61, 62, 63, 65, 66, 68, 69, 70, 72, 73, 75, 76, 77, 78, 80, 81, 83, 84, 85, 92, 93, 94, 95, 98, 100, 101, 103, 104, 105, 107, 108, 110, 111, 112, 114, 115, 117, 118, 119, 121, 122, 124, 125, 126, 127, 129, 130, 132, 133, 134, 135, 137, 138, 140, 141, 142, 143, 145, 146, 148, 149, 150, 151, 153, 154, 156, 157, 165, 167, 168, 170, 171, 172, 174, 175, 177, 178, 179, 181, 182, 184, 185, 186, 188, 189, 191, 192, 193, 194, 195, 196, 197, 200, 202, 203, 205, 206, 207, 209, 210, 212, 213, 214, 216, 217, 219, 220, 221, 224, 225, 226, 229, 230, 231, 234, 235, 236, 239, 240, 241, 243, 244, 246, 247, 248, 250, 251, 253, 254, 255, 258, 259, 260, 262, 263, 265, 266, 267, 270, 271, 272, 275, 276]
noncomputable def view01 : Program := { pw01 with main := { pw01.main with body := ([0, 1, 3, 4, 6, 7, 9, 10, 12, 13, 15, 16, 17, 18, 19, 20, 27, 29, 30, 31, 32, 33, 34, 35, 36, 37, 38, 39, 40, 41] : List Nat).filterMap fun i => pw01.main.body[i]? } }
noncomputable abbrev loose01 : List Str := ["_twin_re_1", "_special_chars_map", "bytes_types", "a2b_base64", "b2a_base64", "b64encode", "b64decode"]
noncomputable def Xt01 (s : Shared) : Bool := xlAt view01 [] s && recOk (RowW.records PySem.Challenge.rw_kq0063_01.row.toRowW) s
noncomputable def Eqn01 (w : World) : Prop := (openEnds treeTable pw01 w 5656).map (fun s => (openSeen view01 loose01 (importedModules pw01.main.body) Xt01 true s, (as01.map s.heap.get?, ([201, 64] : List Addr).map s.heap.get?))) = some (openGood view01 loose01, ((K01 w.params).map fun p => some p.2, ([201, 64] : List Addr).map fun _ => some (tabObj #[])))
end
set_option maxHeartbeats 0 in
noncomputable abbrev EqP (w : World) : { P : Prop // P → Eqn01 w } := ⟨_, fun h => by
  unfold Eqn01 openEnds fencedOpening topFrom
  rw [PySem.W.Fast.te14364793385576792824, PySem.W.Fast.te10274390034422433532, PySem.W.Fast.te1435165496053646825, PySem.W.Fast.te14289696077712309145, PySem.W.Fast.te14082659384304107361, PySem.W.Fast.te5923862056798008813, PySem.W.Fast.te8920871248978507458, PySem.W.Fast.te4187177175401517315]
  exact h⟩
theorem eqn_ff (w : World) : Eqn01 ((w.withFollow "special-get-raises" false).withFollow "comprehension-iter-twice" false) := (EqP _).2 (by kernel_rfl)
theorem eqn_ft (w : World) : Eqn01 ((w.withFollow "special-get-raises" false).withFollow "comprehension-iter-twice" true) := (EqP _).2 (by kernel_rfl)
theorem eqn_tf (w : World) : Eqn01 ((w.withFollow "special-get-raises" true).withFollow "comprehension-iter-twice" false) := (EqP _).2 (by kernel_rfl)
theorem eqn_tt (w : World) : Eqn01 ((w.withFollow "special-get-raises" true).withFollow "comprehension-iter-twice" true) := (EqP _).2 (by kernel_rfl)
theorem eqn01 (w : World) : Eqn01 w := byRow2 "comprehension-iter-twice" (P := Eqn01) (byRow2 "special-get-raises" (P := fun w => Eqn01 (w.withFollow "comprehension-iter-twice" false)) eqn_ff eqn_tf) (byRow2 "special-get-raises" (P := fun w => Eqn01 (w.withFollow "comprehension-iter-twice" true)) eqn_ft eqn_tt) w



abbrev rw01 : OpenLaw := PySem.Challenge.rw_kq0063_01
theorem said01 : OpenLaw.wellSaid PySem.Challenge.rw_kq0063_01 = true := by
  rw [PySem.W.Fast.te9446332074065402090]
  kernel_rfl
theorem isd01 : (defOf view01 "law").isSome = true := by kernel_rfl
noncomputable def d01 : DefRec := ((defOf view01 "law").get isd01).1
theorem def01 : defOf view01 rw01.row.name = some (d01, []) := by kernel_rfl
theorem name01 : d01.name = "law" := by kernel_rfl
theorem the01 : rw01.row.prog.theDef rw01.row.name = some (d01.params, d01.body, d01.scope) := by rw [PySem.W.Fast.te10235530238920679567]; kernel_rfl
theorem kw01 : kwWritten? d01.params.kwonlyargs d01.params.kw_defaults = some [] := by kernel_rfl
theorem ok01 : (chainsOk view01 && opensWell rw01.row.prog && (frees rw01.row.toRowW && rw01.row.within.isEmpty)) = true := by kernel_rfl
theorem wr01 : (!rw01.row.writes || rw01.row.records.isEmpty) = true := by kernel_rfl
theorem bare01 : rw01.row.prog.bare := ⟨rfl, rfl, rfl, rfl, rfl, by decide +kernel⟩
theorem prom01 : rw01.row.toRowW.promised := by w_witness2
theorem as01_eq : ∀ P, as01 = (K01 P).map (·.1) := fun P => by kernel_rfl
noncomputable abbrev hook01 : Hook := kmHook K01 as01 as01_eq [201, 64]
theorem left01 : LeftO rw01.row.prog view01 loose01 Xt01 (Hook.obs hook01) (Hook.val hook01) 5656 := fun w => eqn01 w
theorem hd01 (call : WalkO view01 loose01 (XL view01 []) (Hook.says hook01) rw01.row.toRowW d01 [] fun f vs => PySem.call f vs) : PySem.Challenge.rw_kq0063_01.Holds :=
  holds_law said01 fun said => holds_open left01 (Hook.of hook01) (Hook.keeps hook01) (fun s e => xl_of s (Bool.and_eq_true_iff.mp e).1) XL.keeps def01 the01 kw01
    (fun s e => recFacts_of (Bool.and_eq_true_iff.mp e).2) wr01 said ok01 bare01 prom01 call


end Mine
noncomputable section
set_option tactic.hygienic false
namespace Mine
inductive D where
  | none
  | bool (b : Bool)
  | int (i : Int)
  | str (l : List Nat)
  | bytes (l : List UInt8)
  | raw (v : Value)
  | list (ds : List D)
  | tup (ds : List D)
  | bm (id : String) (a : Addr)
  | rng (a b : Int)
  | code (q : Str)
  | fn (F : FuncData → Prop) (q : Str)
  | inst (C dx : Addr)
  | meth (f C dx : Addr)
noncomputable abbrev own (a : Addr) : D := .raw (.ref a)
noncomputable def IsBM (h : Heap) (q : Addr) (id : String) (a : Addr) : Prop := ∃ o, h.get? q = some o ∧ o.cls = .type "builtin_function_or_method" ∧ o.data = .fields #[.builtin id, .ref a]
noncomputable def PL (h : Heap) (a : Addr) (vs : List Value) : Prop := ∃ n, h.get? a = some { cls := .type "list", data := .seq vs.toArray n }
theorem PL.isList {h : Heap} {a : Addr} {vs : List Value} (x : PL h a vs) : h.IsList a vs.toArray := let ⟨n, e⟩ := x; ⟨_, e, rfl, n, rfl⟩
theorem PL.at {h h' : Heap} {a : Addr} {vs : List Value} (x : PL h a vs) (k : ∀ o, h.get? a = some o → h'.get? a = some o) : PL h' a vs := let ⟨n, e⟩ := x; ⟨n, k _ e⟩
theorem PL.noDict {h : Heap} {a : Addr} {vs : List Value} (x : PL h a vs) : h.NoDictAt (.ref a) := let ⟨n, e⟩ := x; ⟨_, e, rfl⟩
mutual
inductive Rep (X : List Addr) (h : Heap) : Value → D → Prop
  | none : Rep X h .none .none
  | bool (b : Bool) : Rep X h (.bool b) (.bool b)
  | int (i : Int) (t : Tok) : Rep X h (.int i t) (.int i)
  | str (l : List Nat) (t : Tok) : Rep X h (.str ⟨l.toArray⟩ t) (.str l)
  | bytes (l : List UInt8) (t : Tok) : Rep X h (.bytes l.toArray t) (.bytes l)
  | raw (v : Value) : Rep X h v (.raw v)
  | list {a : Addr} {vs : List Value} {ds : List D} : PL h a vs → a ∉ X → RepAll X h vs ds → Rep X h (.ref a) (.list ds)
  | tup {a : Addr} {vs : List Value} {ds : List D} : IsTup h a vs.toArray → a ∉ X → RepAll X h vs ds → Rep X h (.ref a) (.tup ds)
  | bm {a q : Addr} {id : String} : IsBM h q id a → q ∉ X → Rep X h (.ref q) (.bm id a)
  | rng {a b : Int} {q : Addr} {t u v : Tok} : IsRange h q a b 1 t u v → q ∉ X → Rep X h (.ref q) (.rng a b)
  | code {c : Addr} {o : Obj} {vs : Array Value} {q : Str} {t : Tok} : h.get? c = some o → o.cls = .type "code" → o.data = .fields vs → vs[1]? = some (.str q t) → c ∉ X → Rep X h (.ref c) (.code q)
  | fn {a : Addr} {o : Obj} {fd : FuncData} {F : FuncData → Prop} {q : Str} : h.get? a = some o → o.cls = .type "function" → o.data = .func fd → F fd → a ∉ X → Rep X h fd.code (.code q) → Rep X h (.ref a) (.fn F q)
  | inst {a C dx : Addr} : h.get? a = some (instObj C dx) → a ∉ X → Rep X h (.ref a) (.inst C dx)
  | meth {q f x C dx : Addr} : h.get? q = some (methodObj (.ref f) (.ref x)) → q ∉ X → Rep X h (.ref x) (.inst C dx) → Rep X h (.ref q) (.meth f C dx)
inductive RepAll (X : List Addr) (h : Heap) : List Value → List D → Prop
  | nil : RepAll X h [] []
  | cons {v : Value} {vs : List Value} {d : D} {ds : List D} : Rep X h v d → RepAll X h vs ds → RepAll X h (v :: vs) (d :: ds)
end
inductive RNone : Value → Prop | none : RNone .none
inductive RBool (b : Bool) : Value → Prop | bool : RBool b (.bool b)
inductive RInt (i : Int) : Value → Prop | int (t : Tok) : RInt i (.int i t)
inductive RStr (l : List Nat) : Value → Prop | str (t : Tok) : RStr l (.str ⟨l.toArray⟩ t)
inductive RBytes (l : List UInt8) : Value → Prop | bytes (t : Tok) : RBytes l (.bytes l.toArray t)
inductive RRaw (v : Value) : Value → Prop | raw : RRaw v v
inductive RList (X : List Addr) (h : Heap) (ds : List D) : Value → Prop | list {a : Addr} {vs : List Value} : PL h a vs → a ∉ X → RepAll X h vs ds → RList X h ds (.ref a)
inductive RTup (X : List Addr) (h : Heap) (ds : List D) : Value → Prop | tup {a : Addr} {vs : List Value} : IsTup h a vs.toArray → a ∉ X → RepAll X h vs ds → RTup X h ds (.ref a)
inductive RBm (X : List Addr) (h : Heap) (id : String) (a : Addr) : Value → Prop | bm {q : Addr} : IsBM h q id a → q ∉ X → RBm X h id a (.ref q)
inductive RRng (X : List Addr) (h : Heap) (a b : Int) : Value → Prop | rng {q : Addr} {t u v : Tok} : IsRange h q a b 1 t u v → q ∉ X → RRng X h a b (.ref q)
inductive RCode (X : List Addr) (h : Heap) (q : Str) : Value → Prop | code {c : Addr} {o : Obj} {vs : Array Value} {t : Tok} : h.get? c = some o → o.cls = .type "code" → o.data = .fields vs → vs[1]? = some (.str q t) → c ∉ X → RCode X h q (.ref c)
inductive RFn (X : List Addr) (h : Heap) (F : FuncData → Prop) (q : Str) : Value → Prop | fn {a : Addr} {o : Obj} {fd : FuncData} : h.get? a = some o → o.cls = .type "function" → o.data = .func fd → F fd → a ∉ X → Rep X h fd.code (.code q) → RFn X h F q (.ref a)
inductive RInst (X : List Addr) (h : Heap) (C dx : Addr) : Value → Prop | inst {a : Addr} : h.get? a = some (instObj C dx) → a ∉ X → RInst X h C dx (.ref a)
inductive RMeth (X : List Addr) (h : Heap) (f C dx : Addr) : Value → Prop | meth {q x : Addr} : h.get? q = some (methodObj (.ref f) (.ref x)) → q ∉ X → Rep X h (.ref x) (.inst C dx) → RMeth X h f C dx (.ref q)
noncomputable def RepI (X : List Addr) (h : Heap) (v : Value) : D → Prop
  | .none => RNone v
  | .bool b => RBool b v
  | .int i => RInt i v
  | .str l => RStr l v
  | .bytes l => RBytes l v
  | .raw w => RRaw w v
  | .list ds => RList X h ds v
  | .tup ds => RTup X h ds v
  | .bm id a => RBm X h id a v
  | .rng a b => RRng X h a b v
  | .code q => RCode X h q v
  | .fn F q => RFn X h F q v
  | .inst C dx => RInst X h C dx v
  | .meth f C dx => RMeth X h f C dx v
theorem Rep.inv {X : List Addr} {h : Heap} {v : Value} {d : D} : Rep X h v d → RepI X h v d
  | .none => .none
  | .bool b => .bool
  | .int i t => .int t
  | .str l t => .str t
  | .bytes l t => .bytes t
  | .raw v => .raw
  | .list x f r => .list x f r
  | .tup x f r => .tup x f r
  | .bm x f => .bm x f
  | .rng x f => .rng x f
  | .code e c d v f => .code e c d v f
  | .meth e f r => .meth e f r
  | .fn e c d z f r => .fn e c d z f r
  | .inst e f => .inst e f
inductive RNil : List Value → Prop | nil : RNil []
inductive RCons (X : List Addr) (h : Heap) (d : D) (ds : List D) : List Value → Prop | cons {v : Value} {vs : List Value} : Rep X h v d → RepAll X h vs ds → RCons X h d ds (v :: vs)
noncomputable def RepAllI (X : List Addr) (h : Heap) (vs : List Value) : List D → Prop
  | [] => RNil vs
  | d :: ds => RCons X h d ds vs
theorem RepAll.inv {X : List Addr} {h : Heap} {vs : List Value} {ds : List D} : RepAll X h vs ds → RepAllI X h vs ds
  | .nil => .nil
  | .cons x r => .cons x r
local macro_rules | `(tactic| omega) => `(tactic| lia)
local macro_rules
  | `(tactic| cases $h:ident) => `(tactic| first | (replace $h := Rep.inv $h; cases $h:ident) | (replace $h := RepAll.inv $h; cases $h:ident))
  | `(tactic| cases $h:ident with $a:inductionAlt*) => `(tactic| first | (replace $h := Rep.inv $h; cases $h:ident with $a:inductionAlt*) | (replace $h := RepAll.inv $h; cases $h:ident with $a:inductionAlt*))
noncomputable def look (o : Obj) : Prop := (∃ xs n, o.data = .seq xs n) ∨ ((o.cls = .type "builtin_function_or_method" ∨ o.cls = .type "range" ∨ o.cls = .type "code" ∨ o.cls = .type "method") ∧ ∃ vs, o.data = .fields vs) ∨ (∃ fd, o.data = .func fd) ∨ o.data = .plain
noncomputable def Same (X : List Addr) (h h' : Heap) : Prop := ∀ b o, b ∉ X → look o → h.get? b = some o → h'.get? b = some o
theorem Same.of_keeps {X : List Addr} {h h' : Heap} (k : ∀ b o, h.get? b = some o → h'.get? b = some o) : Same X h h' := fun b o _ _ e => k b o e
theorem Same.of_but {X : List Addr} {h h' : Heap} {a : Addr} (k : Heap.SameBut a h h') (ha : a ∈ X ∨ ∀ o, h.get? a = some o → ¬ look o) : Same X h h' := fun b o hb hl e => by
  refine (k.2 b fun q => ?_).trans e
  subst q
  rcases ha with ha | ha
  · exact hb ha
  · exact ha o e hl
theorem Rep.map {X X' : List Addr} {h h' : Heap} (k : ∀ b o, b ∉ X → look o → h.get? b = some o → b ∉ X' ∧ h'.get? b = some o) {v : Value} {d : D} (r : Rep X h v d) : Rep X' h' v d :=
  Rep.rec (motive_1 := fun v d _ => Rep X' h' v d) (motive_2 := fun vs ds _ => RepAll X' h' vs ds) Rep.none Rep.bool Rep.int Rep.str Rep.bytes Rep.raw
    (fun ⟨n, e⟩ f _ r => let q := k _ _ f (.inl ⟨_, n, rfl⟩) e; Rep.list ⟨n, q.2⟩ q.1 r)
    (fun ⟨o, ho, hc, n, w⟩ f _ r => let q := k _ o f (.inl ⟨_, n, w⟩) ho; Rep.tup ⟨o, q.2, hc, n, w⟩ q.1 r)
    (fun ⟨o, ho, hc, w⟩ f => let q := k _ o f (.inr (.inl ⟨.inl hc, _, w⟩)) ho; Rep.bm ⟨o, q.2, hc, w⟩ q.1)
    (fun x f => let q := k _ _ f (.inr (.inl ⟨.inr (.inl rfl), _, rfl⟩)) x; Rep.rng q.2 q.1)
    (fun e c d v f => let q := k _ _ f (.inr (.inl ⟨.inr (.inr (.inl c)), _, d⟩)) e; Rep.code q.2 c d v q.1)
    (fun e c d z f _ r => let q := k _ _ f (.inr (.inr (.inl ⟨_, d⟩))) e; Rep.fn q.2 c d z q.1 r)
    (fun e f => let q := k _ _ f (.inr (.inr (.inr rfl))) e; Rep.inst q.2 q.1)
    (fun e f _ r => let q := k _ _ f (.inr (.inl ⟨.inr (.inr (.inr rfl)), _, rfl⟩)) e; Rep.meth q.2 q.1 r)
    RepAll.nil (fun _ _ x r => RepAll.cons x r) r
theorem RepAll.map {X X' : List Addr} {h h' : Heap} (k : ∀ b o, b ∉ X → look o → h.get? b = some o → b ∉ X' ∧ h'.get? b = some o) {vs : List Value} {ds : List D} (r : RepAll X h vs ds) : RepAll X' h' vs ds := by
  induction ds generalizing vs with
  | nil => cases r; exact .nil
  | cons d ds ih => cases r with | cons x r => exact .cons (x.map k) (ih r)
theorem Rep.mono {X : List Addr} {h h' : Heap} (k : Same X h h') {v : Value} {d : D} (r : Rep X h v d) : Rep X h' v d := r.map fun b o hb l e => ⟨hb, k b o hb l e⟩
theorem RepAll.mono {X : List Addr} {h h' : Heap} (k : Same X h h') {vs : List Value} {ds : List D} (r : RepAll X h vs ds) : RepAll X h' vs ds := r.map fun b o hb l e => ⟨hb, k b o hb l e⟩
theorem Rep.sub {X X' : List Addr} {h : Heap} (k : ∀ a ∈ X, a ∈ X') {v : Value} {d : D} (r : Rep X' h v d) : Rep X h v d := r.map fun b o hb l e => ⟨fun q => hb (k b q), e⟩
theorem RepAll.sub {X X' : List Addr} {h : Heap} (k : ∀ a ∈ X, a ∈ X') {vs : List Value} {ds : List D} (r : RepAll X' h vs ds) : RepAll X h vs ds := r.map fun b o hb l e => ⟨fun q => hb (k b q), e⟩
theorem not_new {X : List Addr} {h : Heap} {a b : Addr} {o : Obj} (ha : h.get? a = none) (hb : b ∉ X) (e : h.get? b = some o) : b ∉ a :: X := fun q => by
  rcases List.mem_cons.mp q with q | q
  · rw [q, ha] at e; cases e
  · exact hb q
theorem Rep.new {X : List Addr} {h : Heap} {a : Addr} (ha : h.get? a = Option.none) {v : Value} {d : D} (r : Rep X h v d) : Rep (a :: X) h v d := r.map fun b o hb l e => ⟨not_new ha hb e, e⟩
theorem RepAll.new {X : List Addr} {h : Heap} {a : Addr} (ha : h.get? a = Option.none) {vs : List Value} {ds : List D} (r : RepAll X h vs ds) : RepAll (a :: X) h vs ds := r.map fun b o hb l e => ⟨not_new ha hb e, e⟩
theorem Rep.to {X X' : List Addr} {h : Heap} (k : ∀ a ∈ X', a ∈ X ∨ ∀ o, h.get? a = some o → ¬ look o) {v : Value} {d : D} (r : Rep X h v d) : Rep X' h v d := r.map fun b o hb l e => ⟨fun q => (k b q).elim hb fun z => z o e l, e⟩
theorem RepAll.to {X X' : List Addr} {h : Heap} (k : ∀ a ∈ X', a ∈ X ∨ ∀ o, h.get? a = some o → ¬ look o) {vs : List Value} {ds : List D} (r : RepAll X h vs ds) : RepAll X' h vs ds := r.map fun b o hb l e => ⟨fun q => (k b q).elim hb fun z => z o e l, e⟩
theorem Rep.keeps {X : List Addr} {h h' : Heap} {v : Value} {d : D} (x : Rep X h v d) (k : ∀ b o, h.get? b = some o → h'.get? b = some o) : Rep X h' v d := x.mono (.of_keeps k)
theorem RepAll.keeps {X : List Addr} {h h' : Heap} {v : List Value} {d : List D} (x : RepAll X h v d) (k : ∀ b o, h.get? b = some o → h'.get? b = some o) : RepAll X h' v d := x.mono (.of_keeps k)
theorem RepAll.length {X : List Addr} {h : Heap} {vs : List Value} {ds : List D} (r : RepAll X h vs ds) : vs.length = ds.length := by
  induction ds generalizing vs with
  | nil => cases r; rfl
  | cons d ds ih => cases r with | cons _ r => rw [List.length_cons, List.length_cons, ih r]
theorem RepAll.append {X : List Addr} {h : Heap} {vs ws : List Value} {ds es : List D} (r : RepAll X h vs ds) (y : RepAll X h ws es) : RepAll X h (vs ++ ws) (ds ++ es) := by
  induction ds generalizing vs with
  | nil => cases r; exact y
  | cons d ds ih => cases r with | cons x r => exact .cons x (ih r)
theorem RepAll.get {X : List Addr} {h : Heap} {vs : List Value} {ds : List D} {k : Nat} {d : D} (r : RepAll X h vs ds) (e : ds[k]? = some d) : ∃ v, vs[k]? = some v ∧ Rep X h v d := by
  induction ds generalizing vs k with
  | nil => cases e
  | cons d' ds ih => cases r with | cons x r => cases k with
    | zero => cases e; exact ⟨_, rfl, x⟩
    | succ k => exact ih (k := k) r e
noncomputable def Live (X : List Addr) (h : Heap) : Prop := ∀ a ∈ X, ∃ o, h.get? a = some o
theorem Live.keeps {X : List Addr} {h h' : Heap} (x : Live X h) (k : ∀ b o, h.get? b = some o → h'.get? b = some o) : Live X h' := fun a ha => let ⟨o, e⟩ := x a ha; ⟨o, k a o e⟩
theorem Live.new {X : List Addr} {h : Heap} (x : Live X h) : h.objs.size ∉ X := fun q => by
  obtain ⟨o, e⟩ := x _ q
  exact Nat.lt_irrefl _ (Heap.lt_size e)
structure Grow (s s' : Shared) : Prop where
  same : ∃ h tk, s' = { s with heap := h, toks := tk }
  heap : ∀ b o, s.heap.get? b = some o → s'.heap.get? b = some o
theorem Grow.refl (s : Shared) : Grow s s := ⟨⟨s.heap, s.toks, rfl⟩, fun _ _ e => e⟩
theorem Grow.trans {s₁ s₂ s₃ : Shared} (x : Grow s₁ s₂) (y : Grow s₂ s₃) : Grow s₁ s₃ := by
  obtain ⟨⟨h, t, rfl⟩, k⟩ := x
  obtain ⟨⟨h', t', rfl⟩, k'⟩ := y
  exact ⟨⟨h', t', rfl⟩, fun b o e => k' b o (k b o e)⟩
theorem Grow.toks (s : Shared) (t : Nat) : Grow s { s with toks := t } := ⟨⟨s.heap, t, rfl⟩, fun _ _ e => e⟩
theorem Grow.of {s : Shared} {h : Heap} {t : Nat} (k : ∀ b o, s.heap.get? b = some o → h.get? b = some o) : Grow s { s with heap := h, toks := t } := ⟨⟨h, t, rfl⟩, k⟩
theorem Grow.push (s : Shared) (o : Obj) (t : Nat) : Grow s { s with heap := s.heap.push o, toks := t } := ⟨⟨_, t, rfl⟩, fun _ _ e => Heap.get?_push_of_some o e⟩
structure Gd where
  K : Frag
  prog : Program
  w : World
  p : Program
  loose : List Str
  mean : ExcName → Option Value
  mg : Str → Option Value
  mb : Str → Option Value
  H₀ : Heap
  X : K.In H₀
  T : PyProof.Rows.Top p loose mean mg mb H₀
noncomputable abbrev Loc := List (Str × D)
inductive OO where
  | list (ds : List D)
  | ns (fs : Loc)
  | cell (d : D)
  | pit (f : Nat → Nat → Option Str)
  | citer (df : D) (sent : List Nat) (dn : Bool)
noncomputable def NsB (h : Heap) (a : Addr) (m : Str → Option Value) (k : Nat) : Prop := ∃ o es ep, h.get? a = some o ∧ o.data = .dict es ep ∧ StrKeys es ∧ (∀ name, nsFind es name = m name) ∧ es.size ≤ k
theorem NsB.ns {h : Heap} {a : Addr} {m : Str → Option Value} {k : Nat} (x : NsB h a m k) : h.Ns a m := let ⟨o, es, ep, a, b, c, d, _⟩ := x; ⟨o, es, ep, a, b, c, d⟩
theorem NsB.at {h h' : Heap} {a : Addr} {m : Str → Option Value} {k : Nat} (x : NsB h a m k) (e : ∀ o, h.get? a = some o → h'.get? a = some o) : NsB h' a m k := let ⟨o, es, ep, e1, r⟩ := x; ⟨o, es, ep, e _ e1, r⟩
noncomputable def OOIs (X : List Addr) (h : Heap) (a : Addr) : OO → Prop
  | .list ds => ∃ vs : List Value, PL h a vs ∧ RepAll X h vs ds
  | .ns fs => ∃ m, NsB h a m fs.length ∧ (∀ x, fs.lookup x = none → m x = none) ∧ ∀ x d, fs.lookup x = some d → ∃ v, m x = some v ∧ Rep X h v d
  | .cell d => ∃ v, h.IsCell a (some v) ∧ Rep X h v d
  | .pit f => ∃ ps, h.get? a = some (tabObj ps) ∧ TriplesOk ps.toList ∧ ∀ pos cv q, codeAmong pos ps.toList = some cv → f pos.line pos.col = some q → Rep X h cv (.code q)
  | .citer df sent dn => ∃ v t, h.get? a = some { cls := .type "callable_iterator", data := .fields (if dn then #[.none, .none, .bool true] else #[v, .str ⟨sent.toArray⟩ t, .bool false]) } ∧ (dn = false → Rep X h v df)
noncomputable abbrev Own := List (Addr × OO)
theorem OOIs.at {X : List Addr} {h h' : Heap} {a : Addr} {o : OO} (x : OOIs X h a o) (e : ∀ ob, h.get? a = some ob → h'.get? a = some ob) (m : Same X h h') : OOIs X h' a o := by
  cases o with
  | list ds => obtain ⟨vs, hl, r⟩ := x; exact ⟨vs, hl.at e, r.mono m⟩
  | ns fs => obtain ⟨f, hn, h1, h2⟩ := x; exact ⟨f, hn.at e, h1, fun y d q => let ⟨v, e1, r⟩ := h2 y d q; ⟨v, e1, r.mono m⟩⟩
  | cell d => obtain ⟨v, ⟨o, e1, e2⟩, r⟩ := x; exact ⟨v, ⟨o, e _ e1, e2⟩, r.mono m⟩
  | pit f => obtain ⟨ps, e1, t, r⟩ := x; exact ⟨ps, e _ e1, t, fun pos cv q h1 h2 => (r pos cv q h1 h2).mono m⟩
  | citer df s dn => obtain ⟨v, t, e1, r⟩ := x; exact ⟨v, t, e _ e1, fun z => (r z).mono m⟩
theorem OOIs.keeps {X : List Addr} {h h' : Heap} {a : Addr} {o : OO} (x : OOIs X h a o) (k : ∀ b o, h.get? b = some o → h'.get? b = some o) : OOIs X h' a o := x.at (fun o e => k a o e) (.of_keeps k)
theorem OOIs.subX {X X' : List Addr} {h : Heap} {a : Addr} {o : OO} (x : OOIs X h a o) (k : ∀ a ∈ X', a ∈ X) : OOIs X' h a o := by
  cases o with
  | list ds => obtain ⟨vs, hl, r⟩ := x; exact ⟨vs, hl, r.sub k⟩
  | ns fs => obtain ⟨f, hn, h1, h2⟩ := x; exact ⟨f, hn, h1, fun y d q => let ⟨v, e1, r⟩ := h2 y d q; ⟨v, e1, r.sub k⟩⟩
  | cell d => obtain ⟨v, e, r⟩ := x; exact ⟨v, e, r.sub k⟩
  | pit f => obtain ⟨ps, e1, t, r⟩ := x; exact ⟨ps, e1, t, fun pos cv q h1 h2 => (r pos cv q h1 h2).sub k⟩
  | citer df s dn => obtain ⟨v, t, e1, r⟩ := x; exact ⟨v, t, e1, fun z => (r z).sub k⟩
theorem OOIs.new {X : List Addr} {h : Heap} {a b : Addr} {o : OO} (x : OOIs X h a o) (hb : h.get? b = none) : OOIs (b :: X) h a o := by
  cases o with
  | list ds => obtain ⟨vs, hl, r⟩ := x; exact ⟨vs, hl, r.new hb⟩
  | ns fs => obtain ⟨f, hn, h1, h2⟩ := x; exact ⟨f, hn, h1, fun y d q => let ⟨v, e1, r⟩ := h2 y d q; ⟨v, e1, r.new hb⟩⟩
  | cell d => obtain ⟨v, e, r⟩ := x; exact ⟨v, e, r.new hb⟩
  | pit f => obtain ⟨ps, e1, t, r⟩ := x; exact ⟨ps, e1, t, fun pos cv q h1 h2 => (r pos cv q h1 h2).new hb⟩
  | citer df s dn => obtain ⟨v, t, e1, r⟩ := x; exact ⟨v, t, e1, fun z => (r z).new hb⟩
theorem OOIs.to {X X' : List Addr} {h : Heap} {a : Addr} {o : OO} (x : OOIs X h a o) (k : ∀ a ∈ X', a ∈ X ∨ ∀ o, h.get? a = some o → ¬ look o) : OOIs X' h a o := by
  cases o with
  | list ds => obtain ⟨vs, hl, r⟩ := x; exact ⟨vs, hl, r.to k⟩
  | ns fs => obtain ⟨f, hn, h1, h2⟩ := x; exact ⟨f, hn, h1, fun y d q => let ⟨v, e1, r⟩ := h2 y d q; ⟨v, e1, r.to k⟩⟩
  | cell d => obtain ⟨v, e, r⟩ := x; exact ⟨v, e, r.to k⟩
  | pit f => obtain ⟨ps, e1, t, r⟩ := x; exact ⟨ps, e1, t, fun pos cv q h1 h2 => (r pos cv q h1 h2).to k⟩
  | citer df s dn => obtain ⟨v, t, e1, r⟩ := x; exact ⟨v, t, e1, fun z => (r z).to k⟩
theorem own_there {X : List Addr} {a : Addr} {o : OO} {h : Heap} (x : OOIs X h a o) : ∃ ob, h.get? a = some ob := by
  cases o with
  | list ds => obtain ⟨vs, ⟨n, e⟩, _⟩ := x; exact ⟨_, e⟩
  | ns fs => obtain ⟨f, ⟨o, _, _, e, _⟩, _⟩ := x; exact ⟨o, e⟩
  | cell d => obtain ⟨v, ⟨o, e, _⟩, _⟩ := x; exact ⟨o, e⟩
  | pit f => obtain ⟨ps, e, _⟩ := x; exact ⟨_, e⟩
  | citer df s dn => obtain ⟨v, t, e, _⟩ := x; exact ⟨_, e⟩
inductive VarIs (X : List Addr) (env : Env) (h : Heap) (n : Str) (d : D) : Prop
  | loc (m : Str → Option Value) (v : Value) : env.kindOf n = some .local → h.Ns env.locals m → m n = some v → Rep X h v d → VarIs X env h n d
  | cell (c : Addr) (v : Value) : (env.kindOf n = some .cell ∨ env.kindOf n = some .free) → env.cells.lookup n = some c → h.IsCell c (some v) → Rep X h v d → VarIs X env h n d
noncomputable def Mut (env : Env) (ow : Own) (b : Addr) : Prop := b = env.locals ∨ (∃ n, env.cells.lookup n = some b) ∨ b ∈ ow.map (·.1)
structure Fits (G : Gd) (env : Env) (X : List Addr) (ρ : Loc) (ow : Own) (s : Shared) : Prop where
  base : G.H₀.StaysIn s.heap
  fn : env.scope.kind = .function
  gl : env.globals = mainGlobals
  bl : env.builtins = builtinsNs
  ns : ∃ m, s.heap.Ns env.locals m
  vars : ∀ n d, ρ.lookup n = some d → VarIs X env s.heap n d
  owns : ∀ p ∈ ow, OOIs X s.heap p.1 p.2 ∧ p.1 ∈ X
  nd : (ow.map (·.1)).Nodup
  live : Live X s.heap
  apart : ∀ b o, G.H₀.get? b = some o → ¬ Mut env ow b
  inj : ∀ n n' c, env.cells.lookup n = some c → env.cells.lookup n' = some c → n = n'
  cel : ∀ x c, env.cells.lookup x = some c → ∃ v, s.heap.IsCell c v
  sep : ∀ p ∈ ow, p.1 ≠ env.locals ∧ ∀ n c, env.cells.lookup n = some c → p.1 ≠ c
theorem VarIs.keeps {X : List Addr} {env : Env} {h h' : Heap} {n : Str} {d : D} (x : VarIs X env h n d) (k : ∀ b o, h.get? b = some o → h'.get? b = some o) : VarIs X env h' n d := by
  cases x with
  | loc m v hk hn hm hr => exact .loc m v hk (hn.keeps k) hm (hr.keeps k)
  | cell c v hk hc hv hr => exact .cell c v hk hc (hv.keeps k) (hr.keeps k)
theorem Fits.keeps {G : Gd} {X : List Addr} {env : Env} {ρ : Loc} {ow : Own} {s s' : Shared} (x : Fits G env X ρ ow s) (k : Grow s s') : Fits G env X ρ ow s' :=
  ⟨fun b o e => k.heap b o (x.base b o e), x.fn, x.gl, x.bl, let ⟨m, hm⟩ := x.ns; ⟨m, hm.keeps k.heap⟩, fun n d e => (x.vars n d e).keeps k.heap, fun p hp => ⟨(x.owns p hp).1.keeps k.heap, (x.owns p hp).2⟩, x.nd, x.live.keeps k.heap, x.apart, x.inj, fun y c e => let ⟨v, h⟩ := x.cel y c e; ⟨v, h.keeps k.heap⟩, x.sep⟩
noncomputable def Sub (ρ' ρ : Loc) : Prop := ∀ n d, ρ'.lookup n = some d → ρ.lookup n = some d
theorem Sub.refl (ρ : Loc) : Sub ρ ρ := fun _ _ e => e
theorem Sub.nil (ρ : Loc) : Sub [] ρ := fun _ _ e => by cases e
theorem Sub.cons {n : Str} {d : D} {ρ' ρ : Loc} (h : ρ.lookup n = some d) (r : Sub ρ' ρ) : Sub ((n, d) :: ρ') ρ := fun x e q => by
  rw [List.lookup_cons] at q
  cases hb : x == n with
  | true => rw [hb] at q; cases q; rw [beq_iff_eq.mp hb]; exact h
  | false => rw [hb] at q; exact r x e q
theorem Fits.sub {G : Gd} {X : List Addr} {env : Env} {ρ ρ' : Loc} {ow : Own} {s : Shared} (x : Fits G env X ρ ow s) (k : Sub ρ' ρ) : Fits G env X ρ' ow s :=
  ⟨x.base, x.fn, x.gl, x.bl, x.ns, fun n d e => x.vars n d (k n d e), x.owns, x.nd, x.live, x.apart, x.inj, x.cel, x.sep⟩
structure Room (n : Nat) (A : Around) : Prop where
  hd : A.handled = none
  dp : A.depth + n < recursionLimit
  un : A.units + 8 * n < cLine
theorem Room.le {n m : Nat} {A : Around} (x : Room n A) (h : m ≤ n) : Room m A := ⟨x.hd, by have := x.dp; omega, by have := x.un; omega⟩
theorem Room.in1 {n : Nat} {A : Around} (x : Room (n + 1) A) : Room n A.in1 := ⟨x.hd, by have := x.dp; show A.depth + n < _; omega, by have := x.un; show A.units + 1 + 8 * n < _; omega⟩
theorem Room.deeper {n : Nat} {A : Around} {env : Env} (x : Room (n + 1) A) : Room n (A.deeper env) := ⟨x.hd, by have := x.dp; show A.depth + 1 + n < _; omega, by have := x.un; show A.units + 3 + 8 * n < _; omega⟩
theorem Room.depth {n : Nat} {A : Around} (x : Room n A) : A.depth < recursionLimit := by have := x.dp; omega
theorem Room.units {n : Nat} {A : Around} (x : Room n A) : A.units < cLine := by have := x.un; omega
structure Ev (G : Gd) (n : Nat) (env : Env) (ρ : Loc) (ow : Own) (e : Expr) (d : D) : Prop where
  go : ∀ (X : List Addr) (A : Around) (s : Shared) (E : Value → Shared → Prop), Room n A → Fits G env X ρ ow s → wpAny (model G.prog G.w) A (eval e env) (fun v s' => Rep X s'.heap v d ∧ Grow s s') E s
structure EvAll (G : Gd) (n : Nat) (env : Env) (ρ : Loc) (ow : Own) (es : List Expr) (ds : List D) : Prop where
  go : ∀ (pos : Pos) (X : List Addr) (A : Around) (s : Shared) (E : Value → Shared → Prop), Room n A → Fits G env X ρ ow s → wpAny (model G.prog G.w) A (spliced (backTo pos (starEach es env))) (fun vs s' => RepAll X s'.heap vs ds ∧ Grow s s') E s
structure Tst (G : Gd) (n : Nat) (env : Env) (ρ : Loc) (ow : Own) (e : Expr) (b : Bool) : Prop where
  go : ∀ (X : List Addr) (A : Around) (s : Shared) (E : Value → Shared → Prop), Room n A → Fits G env X ρ ow s → wpAny (model G.prog G.w) A (isTrue e env (eval e env)) (fun r s' => r = b ∧ Grow s s') E s
structure FnIs (G : Gd) (n : Nat) (f : Value) (ds : List D) (d : D) : Prop where
  go : ∀ (X : List Addr) (A : Around) (s : Shared) (E : Value → Shared → Prop) (vs : List Value), Room n A → G.H₀.StaysIn s.heap → Live X s.heap → RepAll X s.heap vs ds →
    wpAny (model G.prog G.w) A (call f vs) (fun v s' => Rep X s'.heap v d ∧ Grow s s') E s
section
variable {G : Gd} {n : Nat} {env : Env} {X : List Addr} {ρ : Loc} {ow : Own}
theorem ev_str {x : Str} {l : List Nat} {k : Nat} {pos : Pos} (h : x = ⟨l.toArray⟩) : Ev G n env ρ ow (.Constant (.str x) k pos) (.str l) := .mk <| fun X A s E _ F => by
  subst h; exact Constant_str ⟨.str l _, .toks _ _⟩
theorem ev_int {i : Int} {k : Nat} {pos : Pos} : Ev G n env ρ ow (.Constant (.int i) k pos) (.int i) := .mk <| fun X A s E _ F => wpAny_Constant_int ⟨.int i _, .toks _ _⟩
theorem ev_bool {b : Bool} {k : Nat} {pos : Pos} : Ev G n env ρ ow (.Constant (.bool b) k pos) (.bool b) := .mk <| fun X A s E _ F => wpAny_pure ⟨.bool b, .refl _⟩
theorem ev_none {k : Nat} {pos : Pos} : Ev G n env ρ ow (.Constant .none k pos) .none := .mk <| fun X A s E _ F => wpAny_pure ⟨.none, .refl _⟩
theorem ev_name {x : Str} {d : D} {pos : Pos} (h : ρ.lookup x = some d) (hd : (x == ("__debug__" : Str)) = false) (hc : (x == ("__classdict__" : Str)) = false) : Ev G n env ρ ow (.Name x pos) d := .mk <| fun X A s E _ F => by
  cases F.vars x d h with
  | loc m v hk hn hm hr => exact wpAny_Name (wpAny_loadName_local F.fn hk hn hm ⟨hr, .refl _⟩) hd
  | cell c v hk hc' hv hr =>
    rcases hk with hk | hk
    · exact wpAny_Name (wpAny_loadName_cell F.fn hk hc' hv ⟨hr, .refl _⟩) hd
    · exact wpAny_Name (wpAny_loadName_free F.fn hk hc' hv ⟨hr, .refl _⟩ hc) hd
theorem ev_glob {x : Str} {v : Value} {pos : Pos} (hk : env.kindOf x = some .globalImplicit) (e : nsIn G.K mainGlobals x = some (some v)) (hd : (x == ("__debug__" : Str)) = false) : Ev G n env ρ ow (.Name x pos) (.raw v) := .mk <| fun X A s E _ F =>
  Name_function_global F.fn hk (loadGlobal_global (by rw [F.gl]; exact G.T.g.keeps F.base) (mg_of G.X G.T.g e) ⟨.raw v, .refl _⟩) hd
theorem ev_builtin {x : Str} {v : Value} {pos : Pos} (hk : env.kindOf x = some .globalImplicit) (e : nsIn G.K mainGlobals x = some none) (hv : bootBuiltins x = some v) (hn : x ≠ "__name__") (hd : (x == ("__debug__" : Str)) = false) : Ev G n env ρ ow (.Name x pos) (.raw v) := .mk <| fun X A s E _ F =>
  Name_function_global F.fn hk (loadGlobal_builtin (by rw [F.gl]; exact G.T.g.keeps F.base) (mg_none_of G.X G.T.g e) (by rw [F.bl]; exact G.T.b.keeps F.base) ((G.T.builtins x hn).trans hv) ⟨.raw v, .refl _⟩) hd
theorem evAll_nil : EvAll G n env ρ ow [] [] := .mk <| fun pos X A s E _ F => spliced_nil ⟨.nil, .refl _⟩
theorem star_eq {env : Env} {pos : Pos} {e : Expr} {es : List Expr} (hs : ∀ x p, e ≠ .Starred x p) : backTo pos (starEach (e :: es) env) = (false, eval e env) :: backTo pos (starEach es env) := by
  cases e <;> first | rfl | exact absurd rfl (hs _ _)
theorem evAll_cons {e : Expr} {es : List Expr} {d : D} {ds : List D} (hs : ∀ x p, e ≠ .Starred x p) (h : Ev G n env ρ ow e d) (r : EvAll G n env ρ ow es ds) : EvAll G n env ρ ow (e :: es) (d :: ds) := .mk <| fun pos X A s E R F => by
  rw [star_eq hs]
  refine spliced_cons (wpAny_mono (h.go X A s E R F) (fun v s₁ q => ?_) fun _ _ x => x)
  exact wpAny_mono (r.go pos X A s₁ E R (F.keeps q.2)) (fun vs s₂ q₂ => ⟨.cons (q.1.keeps q₂.2.heap) q₂.1, q.2.trans q₂.2⟩) fun _ _ x => x
structure BinIs (op : Operator) (d₁ d₂ d : D) : Prop where
  go : ∀ (prog : Program) (w : World) (X : List Addr) (A : Around) (s : Shared) (E : Value → Shared → Prop) v₁ v₂, A.units < cLine → Live X s.heap → Rep X s.heap v₁ d₁ → Rep X s.heap v₂ d₂ →
  wpAny (model prog w) A (binaryOp op v₁ v₂) (fun v s' => Rep X s'.heap v d ∧ Grow s s') E s
end
section
section
variable {prog : Program} {w : World} {X : List Addr} {A : Around} {s : Shared} {E : Value → Shared → Prop}
theorem bin_add {a b : Int} : BinIs .Add (.int a) (.int b) (.int (a + b)) := .mk <| fun prog w X A s E v₁ v₂ _ _ r₁ r₂ => by
  cases r₁; cases r₂; exact add_int ⟨.int _ _, .toks _ _⟩
theorem bin_sub {a b : Int} : BinIs .Sub (.int a) (.int b) (.int (a - b)) := .mk <| fun prog w X A s E v₁ v₂ _ _ r₁ r₂ => by
  cases r₁; cases r₂; exact sub_int ⟨.int _ _, .toks _ _⟩
theorem bin_mod {a b : Int} (hb : 0 < b) : BinIs .Mod (.int a) (.int b) (.int (a % b)) := .mk <| fun prog w X A s E v₁ v₂ _ _ r₁ r₂ => by
  cases r₁; cases r₂
  refine mod_int (by omega) ?_
  rw [Int.fmod_eq_emod_of_nonneg _ (by omega)]
  exact ⟨.int _ _, .toks _ _⟩
theorem bin_div {a b : Int} (hb : 0 < b) (hp : Builtin.divisionGoesByPylong a b = false) : BinIs .FloorDiv (.int a) (.int b) (.int (a / b)) := .mk <| fun prog w X A s E v₁ v₂ _ _ r₁ r₂ => by
  cases r₁; cases r₂
  refine floordiv_int (by omega) ?_ (.inl hp)
  rw [Int.fdiv_eq_ediv_of_nonneg _ (by omega)]
  exact ⟨.int _ _, .toks _ _⟩
theorem bin_pow {a n : Int} (h0 : 0 ≤ n) (h1 : n ≤ 1000000) (h2 : a.natAbs < 2 ^ 64) : BinIs .Pow (.int a) (.int n) (.int (a ^ n.toNat)) := .mk <| fun prog w X A s E v₁ v₂ _ _ r₁ r₂ => by
  cases r₁; cases r₂; exact pow_int_small h0 h1 h2 ⟨.int _ _, .toks _ _⟩
theorem bin_shl {a n : Int} (h0 : 0 ≤ n) (h1 : n ≤ 1000000) (h2 : a.natAbs < 2 ^ 64) : BinIs .LShift (.int a) (.int n) (.int (a * 2 ^ n.toNat)) := .mk <| fun prog w X A s E v₁ v₂ _ _ r₁ r₂ => by
  cases r₁; cases r₂; exact lshift_int_small h0 h1 h2 ⟨.int _ _, .toks _ _⟩
theorem bin_shr {a n : Int} (h0 : 0 ≤ n) : BinIs .RShift (.int a) (.int n) (.int (a.fdiv (2 ^ n.toNat))) := .mk <| fun prog w X A s E v₁ v₂ _ _ r₁ r₂ => by
  cases r₁; cases r₂; exact rshift_int h0 ⟨.int _ _, .toks _ _⟩
theorem bin_and {a b : Int} : BinIs .BitAnd (.int a) (.int b) (.int (Builtin.bitAnd a b)) := .mk <| fun prog w X A s E v₁ v₂ _ _ r₁ r₂ => by
  cases r₁; cases r₂; exact and_int ⟨.int _ _, .toks _ _⟩
theorem bin_or {a b : Int} : BinIs .BitOr (.int a) (.int b) (.int (Builtin.bitOr a b)) := .mk <| fun prog w X A s E v₁ v₂ _ _ r₁ r₂ => by
  cases r₁; cases r₂; exact or_int ⟨.int _ _, .toks _ _⟩
theorem str_app (a b : List Nat) : ((⟨a.toArray⟩ : Str) ++ ⟨b.toArray⟩) = ⟨(a ++ b).toArray⟩ := by
  show Str.append _ _ = _
  simp [Str.append]
theorem bin_cat {a b : List Nat} (h : a.length + b.length ≤ sizeLine) : BinIs .Add (.str a) (.str b) (.str (a ++ b)) := .mk <| fun prog w X A s E v₁ v₂ _ _ r₁ r₂ => by
  cases r₁; cases r₂
  refine add_str (fun t' tk => ⟨?_, .toks _ _⟩) (by simpa [Str.length] using h)
  rw [str_app]; exact .str _ _
theorem bin_lists {a b : List D} (h : a.length + b.length ≤ sizeLine) : BinIs .Add (.list a) (.list b) (.list (a ++ b)) := .mk <| fun prog w X A s E v₁ v₂ _ hX r₁ r₂ => by
  cases r₁ with | @list l vs hl fl ra =>
  cases r₂ with | @list b ws hb fb rb =>
  obtain ⟨n, ho⟩ := id hl
  obtain ⟨n2, ho2⟩ := id hb
  have e : vs.toArray ++ ws.toArray = (vs ++ ws).toArray := by simp
  refine concat_meets ⟨_, ho, rfl⟩ ⟨_, ho2, rfl⟩ noFill_list_add seq_list_add PySem.F.slot_list_add PySem.F.entry_list_add (PySem.F.args_list_add_2 _ _) (list_addW l b vs.toArray ws.toArray n n2 _ _ _ _ (by have := ra.length; have := rb.length; simp; omega)) ⟨ho, ho2, ?_⟩
  rw [e]
  exact ⟨.list ⟨_, Heap.get?_push_size _ rfl⟩ hX.new ((ra.append rb).keeps fun _ _ e => Heap.get?_push_of_some _ e), .push _ _ _⟩
end
section
variable {G : Gd} {n : Nat} {env : Env} {X : List Addr} {ρ : Loc} {ow : Own}
theorem ev_binop {op : Operator} {e₁ e₂ : Expr} {pos : Pos} {d₁ d₂ d : D} (h₁ : Ev G n env ρ ow e₁ d₁) (h₂ : Ev G n env ρ ow e₂ d₂) (h : BinIs op d₁ d₂ d) : Ev G n env ρ ow (.BinOp e₁ op e₂ pos) d := .mk <| fun X A s E R F => by
  refine wpAny_BinOp (wpAny_mono (h₁.go X A s E R F) (fun v₁ s₁ q₁ => ?_) fun _ _ x => x)
  refine wpAny_mono (h₂.go X A s₁ E R (F.keeps q₁.2)) (fun v₂ s₂ q₂ => ?_) fun _ _ x => x
  exact wpAny_mono (h.go _ _ _ A s₂ E v₁ v₂ R.units (F.live.keeps (q₁.2.trans q₂.2).heap) (q₁.1.keeps q₂.2.heap) q₂.1) (fun v s' q => ⟨q.1, (q₁.2.trans q₂.2).trans q.2⟩) fun _ _ x => x
structure CmpIs (op : CmpOp) (d₁ d₂ : D) (b : Bool) : Prop where
  go : ∀ (prog : Program) (w : World) (X : List Addr) (A : Around) (s : Shared) (E : Value → Shared → Prop) v₁ v₂, A.units + 64 < cLine → Rep X s.heap v₁ d₁ → Rep X s.heap v₂ d₂ →
  wpAny (model prog w) A (compareOp op v₁ v₂) (fun v s' => v = .bool b ∧ Grow s s') E s
theorem ev_cmp {op : CmpOp} {e₁ e₂ : Expr} {pos : Pos} {d₁ d₂ : D} {b : Bool} (hm : behindInMarks op e₂ = false) (h₁ : Ev G (n + 8) env ρ ow e₁ d₁) (h₂ : Ev G (n + 8) env ρ ow e₂ d₂) (h : CmpIs op d₁ d₂ b) : Ev G (n + 8) env ρ ow (.Compare e₁ [op] [e₂] pos) (.bool b) := .mk <| fun X A s E R F => by
  refine wpAny_Compare1 (wpAny_mono (h₁.go X A s E R F) (fun v₁ s₁ q₁ => ?_) fun _ _ x => x) hm
  refine wpAny_mono (h₂.go X A s₁ E R (F.keeps q₁.2)) (fun v₂ s₂ q₂ => ?_) fun _ _ x => x
  refine wpAny_mono (h.go _ _ X A s₂ E v₁ v₂ (by have := R.un; omega) (q₁.1.keeps q₂.2.heap) q₂.1) (fun v s' q => ?_) fun _ _ x => x
  obtain ⟨rfl, g⟩ := q
  exact ⟨.bool b, (q₁.2.trans q₂.2).trans g⟩
theorem tst_cmp {op : CmpOp} {e₁ e₂ : Expr} {pos : Pos} {d₁ d₂ : D} {b : Bool} (hm : behindInMarks op e₂ = false) (h₁ : Ev G (n + 8) env ρ ow e₁ d₁) (h₂ : Ev G (n + 8) env ρ ow e₂ d₂) (h : CmpIs op d₁ d₂ b) : Tst G (n + 8) env ρ ow (.Compare e₁ [op] [e₂] pos) b := .mk <| fun X A s E R F => by
  refine wpAny_isTrue_Compare1 (wpAny_mono (h₁.go X A s E R F) (fun v₁ s₁ q₁ => ?_) fun _ _ x => x) hm
  refine wpAny_mono (h₂.go X A s₁ E R (F.keeps q₁.2)) (fun v₂ s₂ q₂ => ?_) fun _ _ x => x
  refine wpAny_mono (h.go _ _ X A s₂ E v₁ v₂ (by have := R.un; omega) (q₁.1.keeps q₂.2.heap) q₂.1) (fun v s' q => ?_) fun _ _ x => x
  obtain ⟨rfl, g⟩ := q
  exact wpAny_truthy_bool ⟨rfl, (q₁.2.trans q₂.2).trans g⟩
theorem cmp_eq_int {a b : Int} : CmpIs .Eq (.int a) (.int b) (a == b) := .mk <| fun prog w X A s E v₁ v₂ _ r₁ r₂ => by
  cases r₁; cases r₂; exact eq_int ⟨rfl, .refl _⟩
theorem cmp_ne_int {a b : Int} : CmpIs .NotEq (.int a) (.int b) (a != b) := .mk <| fun prog w X A s E v₁ v₂ _ r₁ r₂ => by
  cases r₁; cases r₂; exact ne_int ⟨rfl, .refl _⟩
theorem cmp_lt_int {a b : Int} : CmpIs .Lt (.int a) (.int b) (decide (a < b)) := .mk <| fun prog w X A s E v₁ v₂ _ r₁ r₂ => by
  cases r₁; cases r₂; exact lt_int ⟨rfl, .refl _⟩
theorem cmp_le_int {a b : Int} : CmpIs .LtE (.int a) (.int b) (decide (a ≤ b)) := .mk <| fun prog w X A s E v₁ v₂ _ r₁ r₂ => by
  cases r₁; cases r₂; exact le_int ⟨rfl, .refl _⟩
theorem cmp_ge_int {a b : Int} : CmpIs .GtE (.int a) (.int b) (decide (a ≥ b)) := .mk <| fun prog w X A s E v₁ v₂ _ r₁ r₂ => by
  cases r₁; cases r₂; exact ge_int ⟨rfl, .refl _⟩
theorem cmp_eq_str {a b : List Nat} : CmpIs .Eq (.str a) (.str b) (a == b) := .mk <| fun prog w X A s E v₁ v₂ _ r₁ r₂ => by
  cases r₁; cases r₂; exact P.eq_str ⟨rfl, .refl _⟩
theorem cmp_ne_str {a b : List Nat} : CmpIs .NotEq (.str a) (.str b) (a != b) := .mk <| fun prog w X A s E v₁ v₂ _ r₁ r₂ => by
  cases r₁; cases r₂; exact P.ne_str ⟨rfl, .refl _⟩
theorem tst_not {e : Expr} {pos : Pos} {b : Bool} (h : Tst G n env ρ ow e b) : Tst G n env ρ ow (.UnaryOp .Not e pos) (!b) := .mk <| fun X A s E R F =>
  isTrue_not (wpAny_mono (h.go X A s E R F) (fun c s' q => ⟨by rw [q.1], q.2⟩) fun _ _ x => x)
theorem tst_and_nil {pos : Pos} : Tst G n env ρ ow (.BoolOp .And [] pos) true := .mk <| fun X A s E R F => isTrue_and_nil ⟨rfl, .refl _⟩
theorem tst_and {e : Expr} {es : List Expr} {pos : Pos} {b c : Bool} (h : Tst G n env ρ ow e b) (r : b = true → Tst G n env ρ ow (.BoolOp .And es pos) c) : Tst G n env ρ ow (.BoolOp .And (e :: es) pos) (b && c) := .mk <| fun X A s E R F => by
  refine isTrue_and (wpAny_mono (h.go X A s E R F) (fun c' s' q => ?_) fun _ _ x => x)
  obtain ⟨rfl, g⟩ := q
  cases c' with
  | false => exact ⟨rfl, g⟩
  | true => exact wpAny_mono ((r rfl).go X A s' E R (F.keeps g)) (fun c s'' q => ⟨q.1, g.trans q.2⟩) fun _ _ x => x
theorem tst_or {e : Expr} {es : List Expr} {pos : Pos} {b c : Bool} (h : Tst G n env ρ ow e b) (r : b = false → Tst G n env ρ ow (.BoolOp .Or es pos) c) : Tst G n env ρ ow (.BoolOp .Or (e :: es) pos) (b || c) := .mk <| fun X A s E R F => by
  refine isTrue_or (wpAny_mono (h.go X A s E R F) (fun c' s' q => ?_) fun _ _ x => x)
  obtain ⟨rfl, g⟩ := q
  cases c' with
  | true => exact ⟨rfl, g⟩
  | false => exact wpAny_mono ((r rfl).go X A s' E R (F.keeps g)) (fun c s'' q => ⟨q.1, g.trans q.2⟩) fun _ _ x => x
structure TruthIs (d : D) (b : Bool) : Prop where
  go : ∀ (prog : Program) (w : World) (X : List Addr) (A : Around) (s : Shared) (E : Value → Shared → Prop) v, Rep X s.heap v d → wpAny (model prog w) A (truthy v) (fun c s' => c = b ∧ Grow s s') E s
theorem truth_bool {b : Bool} : TruthIs (.bool b) b := .mk <| fun prog w X A s E v r => by cases r; exact wpAny_truthy_bool ⟨rfl, .refl _⟩
theorem truth_int {i : Int} : TruthIs (.int i) (i != 0) := .mk <| fun prog w X A s E v r => by cases r; exact truthy_int ⟨rfl, .refl _⟩
theorem truth_str {l : List Nat} (h : l.length < 2 ^ 62) : TruthIs (.str l) (!l.isEmpty) := .mk <| fun prog w X A s E v r => by
  cases r
  refine P.truthy_str (by simp [Str.length]; omega) ⟨?_, .toks _ _⟩
  cases l <;> simp [Str.length]; omega
noncomputable def plainTest (e : Expr) : Bool := match e with | .UnaryOp .Not .. | .BoolOp .. | .IfExp .. | .Compare .. => false | _ => true
set_option tactic.hygienic true in
theorem plain_eq {env : Env} {e : Expr} (he : plainTest e = true) : isTrue e env (eval e env) = (do let v ← eval e env; standAt e.pos; holding [v] (truthy v)) := by
  cases e <;> first | rfl | (cases he; done) | skip
  rename_i op _ _; cases op <;> first | rfl | (cases he; done)
theorem tst_plain {e : Expr} {d : D} {b : Bool} (he : plainTest e = true) (h : Ev G n env ρ ow e d) (t : TruthIs d b) : Tst G n env ρ ow e b := .mk <| fun X A s E R F => by
  refine isTrue_plain (wpAny_mono (h.go X A s E R F) (fun v s' q => wpAny_mono (t.go _ _ X A s' E v q.1) (fun c s'' q' => ⟨q'.1, q.2.trans q'.2⟩) fun _ _ x => x) fun _ _ x => x) (plain_eq he)
theorem ev_if {t a b : Expr} {pos : Pos} {c : Bool} {d : D} (h : Tst G n env ρ ow t c) (h₁ : c = true → Ev G n env ρ ow a d) (h₂ : c = false → Ev G n env ρ ow b d) : Ev G n env ρ ow (.IfExp t a b pos) d := .mk <| fun X A s E R F => by
  refine IfExp_ (wpAny_mono (h.go X A s E R F) (fun c' s' q => ?_) fun _ _ x => x)
  obtain ⟨rfl, g⟩ := q
  cases c' with
  | true => exact wpAny_mono ((h₁ rfl).go X A s' E R (F.keeps g)) (fun v s'' q => ⟨q.1, g.trans q.2⟩) fun _ _ x => x
  | false => exact wpAny_mono ((h₂ rfl).go X A s' E R (F.keeps g)) (fun v s'' q => ⟨q.1, g.trans q.2⟩) fun _ _ x => x
theorem ev_list {es : List Expr} {pos : Pos} {ds : List D} (h : EvAll G n env ρ ow es ds) (hl : ds.length ≤ sizeLine) : Ev G n env ρ ow (.List es pos) (.list ds) := .mk <| fun X A s E R F => by
  refine List_ (wpAny_mono (h.go pos X A s E R F) (fun vs s' q => ?_) fun _ _ x => x)
  refine wpAny_newObj_type ⟨.list ⟨_, Heap.get?_push_size _ rfl⟩ (F.live.keeps q.2.heap).new (q.1.keeps fun _ _ e => Heap.get?_push_of_some _ e), q.2.trans (.push _ _ _)⟩ ?_
  show vs.toArray.size ≤ sizeLine
  rw [List.size_toArray, q.1.length]; exact hl
theorem ev_tup {es : List Expr} {k : Nat} {pos : Pos} {ds : List D} (h : EvAll G n env ρ ow es ds) (hl : ds.length ≤ sizeLine) : Ev G n env ρ ow (.Tuple es k pos) (.tup ds) := .mk <| fun X A s E R F => by
  refine Tuple_ (wpAny_mono (h.go pos X A s E R F) (fun vs s' q => ?_) fun _ _ x => x)
  refine wpAny_newObj_type ⟨.tup ⟨_, Heap.get?_push_size _ rfl, rfl, _, rfl⟩ (F.live.keeps q.2.heap).new (q.1.keeps fun _ _ e => Heap.get?_push_of_some _ e), q.2.trans (.push _ _ _)⟩ ?_
  show vs.toArray.size ≤ sizeLine
  rw [List.size_toArray, q.1.length]; exact hl
structure ItemIs (d i r : D) : Prop where
  go : ∀ (prog : Program) (w : World) (X : List Addr) (A : Around) (s : Shared) (E : Value → Shared → Prop) (value slice : Expr) v₁ v₂,
  (subscripted slice false v₁ v₂ = operate [v₁, v₂] (getItem v₁ v₂)) → Live X s.heap → Rep X s.heap v₁ d → Rep X s.heap v₂ i → wpAny (model prog w) A (subscriptTail value slice v₁ v₂) (fun v s' => Rep X s'.heap v r ∧ Grow s s') E s
noncomputable def isSlice : Expr → Bool | .Slice .. => true | _ => false
theorem slice_eq {i : Expr} {v₁ v₂ : Value} (h : isSlice i = false) : subscripted i false v₁ v₂ = operate [v₁, v₂] (getItem v₁ v₂) := by
  cases i <;> first | rfl | cases h
theorem ev_item {e i : Expr} {pos : Pos} {d k r : D} (hi : isSlice i = false) (h₁ : Ev G n env ρ ow e d) (h₂ : Ev G n env ρ ow i k) (h : ItemIs d k r) : Ev G n env ρ ow (.Subscript e i pos) r := .mk <| fun X A s E R F => by
  refine Subscript_ (wpAny_mono (h₁.go X A s E R F) (fun v₁ s₁ q₁ => ?_) fun _ _ x => x)
  refine wpAny_mono (h₂.go X A s₁ E R (F.keeps q₁.2)) (fun v₂ s₂ q₂ => ?_) fun _ _ x => x
  refine wpAny_mono (h.go _ _ X A s₂ E e i v₁ v₂ ?_ (F.live.keeps (q₁.2.trans q₂.2).heap) (q₁.1.keeps q₂.2.heap) q₂.1) (fun v s' q => ⟨q.1, (q₁.2.trans q₂.2).trans q.2⟩) fun _ _ x => x
  exact slice_eq hi
theorem item_str {l : List Nat} {i : Int} {c : Nat} {j : Nat} (hj : PySem.seqIndex? i l.length = some j) (hc : l[j]? = some c) (h : -(2 ^ 63) ≤ i ∧ i < 2 ^ 63) : ItemIs (.str l) (.int i) (.str [c]) := .mk <| fun prog w X A s E value slice v₁ v₂ hs _ r₁ r₂ => by
  cases r₁; cases r₂
  refine tail_any (typeIs_str s _ _) PySem.F.slot_str_getitem.lookup (P.getItem_str (c := c) ?_ ?_ ⟨.str [c] _, .toks _ _⟩) hs
  · simp only [Bool.or_eq_false_iff, decide_eq_false_iff_not]; omega
  · show (PySem.seqIndex? i l.toArray.size).bind _ = _
    rw [List.size_toArray, hj]; simpa using hc
theorem item_list {ds : List D} {i : Int} {d : D} (h0 : 0 ≤ i) (h : ds[i.toNat]? = some d) (hi : i < 2 ^ 63) : ItemIs (.list ds) (.int i) d := .mk <| fun prog w X A s E value slice v₁ v₂ hs _ r₁ r₂ => by
  cases r₁ with | list hl fl ra =>
  cases r₂
  obtain ⟨v, hv, rv⟩ := ra.get h
  exact tail_any hl.isList.typeIs slot_list_getitem.lookup (wpAny_getItem_list hl.isList h0 hi (by simpa using hv) ⟨rv, .refl _⟩) hs
noncomputable def cut {α : Type} (l : List α) (lo hi : Option Int) : List α := (l.drop (lo.elim 0 (clipAt l.length))).take (hi.elim l.length (clipAt l.length) - lo.elim 0 (clipAt l.length))
noncomputable def partD : Option Int → D
  | none => .none
  | some i => .int i
structure EvP (G : Gd) (n : Nat) (env : Env) (ρ : Loc) (ow : Own) (e : Option Expr) (i : Option Int) : Prop where
  go : ∀ (X : List Addr) (A : Around) (s : Shared) (E : Value → Shared → Prop), Room n A → Fits G env X ρ ow s → wpAny (model G.prog G.w) A (evalPart e env) (fun v s' => Rep X s'.heap v (partD i) ∧ Grow s s') E s
theorem evp_none : EvP G n env ρ ow none none := .mk <| fun X A s E R F => wpAny_pure ⟨.none, .refl _⟩
theorem evp_some {e : Expr} {i : Int} (h : Ev G n env ρ ow e (.int i)) : EvP G n env ρ ow (some e) (some i) := ⟨h.go⟩
theorem clip_le (n : Nat) (i : Int) : clipAt n i ≤ n := by
  have := clipAt_cast n i
  split at this <;> omega
theorem indices_cut (lo hi : Option Int) (len : Nat) : Builtin.Str.strSliceIndices lo hi 1 len = (List.range (hi.elim len (clipAt len) - lo.elim 0 (clipAt len))).map (lo.elim 0 (clipAt len) + ·) := by
  have key : ∀ i : Int, max (0 : Int) (min (if i < 0 then i + (len : Int) else i) (len : Int)) = ((clipAt len i : Nat) : Int) := fun i => (clipAt_cast len i).symm
  unfold Builtin.Str.strSliceIndices
  simp only [show ((1 : Int) > 0) = True from by simp, if_true]
  cases lo <;> cases hi <;> simp only [key, Option.elim] <;> exact sliceRange_one _ _
theorem sliced_cut (l : List Nat) (lo hi : Option Int) : (Builtin.Str.strSliceIndices lo hi 1 l.length).filterMap (l.toArray[·]?) = cut l lo hi := by
  rw [indices_cut, pick_run]; simp [cut]
theorem cut_whole (l : List Nat) (lo hi : Option Int) (h : (Builtin.Str.strSliceIndices lo hi 1 l.length).length = l.length) : cut l lo hi = l := by
  rw [indices_cut, List.length_map, List.length_range] at h
  unfold cut
  have h1 : hi.elim l.length (clipAt l.length) ≤ l.length := by cases hi <;> simp [clip_le]
  rw [h]
  by_cases h0 : l.length = 0
  · rw [List.length_eq_zero_iff] at h0; subst h0; simp
  · have : lo.elim 0 (clipAt l.length) = 0 := by omega
    rw [this]; simp
theorem partD_inv {X : List Addr} {h : Heap} {v : Value} {i : Option Int} (r : Rep X h v (partD i)) : ∃ p : Option (Int × Tok), v = partValue p ∧ p.map (·.1) = i := by
  cases i with
  | none => cases r; exact ⟨none, rfl, rfl⟩
  | some i => cases r; exact ⟨some (i, _), rfl, rfl⟩
set_option tactic.hygienic true in
theorem ev_cut_str {e : Expr} {lo hi : Option Expr} {p pos : Pos} {l : List Nat} {i j : Option Int} (h : Ev G n env ρ ow e (.str l)) (h₁ : EvP G n env ρ ow lo i) (h₂ : EvP G n env ρ ow hi j) (hl : l.length ≤ sizeLine) :
    Ev G n env ρ ow (.Subscript e (.Slice lo hi none p) pos) (.str (cut l i j)) := .mk <| fun X A s E R F => by
  refine Subscript_ (wpAny_mono (h.go X A s E R F) (fun v s₁ q => wpAny_Slice ?_) fun _ _ x => x)
  refine wpAny_mono (h₁.go X A s₁ E R (F.keeps q.2)) (fun vl s₂ q₂ => ?_) fun _ _ x => x
  refine wpAny_mono (h₂.go X A s₂ E R (F.keeps (q.2.trans q₂.2))) (fun vu s₃ q₃ => ?_) fun _ _ x => x
  rw [evalPart_none]
  refine wpAny_pure ?_
  obtain ⟨q, g⟩ := q
  cases q with | str l t =>
  obtain ⟨pl, rfl, rfl⟩ := partD_inv q₂.1
  obtain ⟨pu, rfl, rfl⟩ := partD_inv q₃.1
  have g3 := (g.trans q₂.2).trans q₃.2
  refine tail_any (ops := [.ref s₃.heap.objs.size, .str ⟨l.toArray⟩ t]) (typeIs_str _ _ _) PySem.F.slot_str_getitem.lookup (wpAny_getItem_str_slice (l := pl) (u := pu) (st := none) ⟨_, Heap.get?_push_size _ rfl, rfl, rfl⟩ rfl ?_) rfl
  unfold sliceMade
  split
  · rename_i hw
    have hw' : (Builtin.Str.strSliceIndices (pl.map (·.1)) (pu.map (·.1)) 1 l.length).length = l.length := by
      have := (Bool.and_eq_true_iff.mp hw).2
      simpa [slicePicked, Str.length] using this
    rw [cut_whole l _ _ hw']
    exact ⟨.str l t, g3.trans (.push _ _ _)⟩
  · have e : (⟨((slicePicked ⟨l.toArray⟩ pl pu none).filterMap ((⟨l.toArray⟩ : Str).cps[·]?)).toArray⟩ : Str) = ⟨(cut l (pl.map (·.1)) (pu.map (·.1))).toArray⟩ := by
      have := sliced_cut l (pl.map (·.1)) (pu.map (·.1))
      unfold slicePicked
      simp only [Str.length, List.size_toArray, Option.map_none, Option.getD_none]
      rw [this]
    rw [e]
    refine ⟨?_, .str _ _, g3.trans (.push _ _ _)⟩
    show (cut l _ _).toArray.size ≤ sizeLine
    rw [List.size_toArray]
    refine Nat.le_trans ?_ hl
    unfold cut
    rw [List.length_take, List.length_drop]; omega
theorem RepAll.drop {X : List Addr} {h : Heap} {vs : List Value} {ds : List D} {a : Nat} (r : RepAll X h vs ds) : RepAll X h (vs.drop a) (ds.drop a) := by
  induction ds generalizing vs a with
  | nil => cases r; cases a <;> exact .nil
  | cons d ds ih => cases r with | cons x r => cases a with
    | zero => exact .cons x r
    | succ a => exact ih r
theorem RepAll.take {X : List Addr} {h : Heap} {vs : List Value} {ds : List D} {k : Nat} (r : RepAll X h vs ds) : RepAll X h (vs.take k) (ds.take k) := by
  induction ds generalizing vs k with
  | nil => cases r; cases k <;> exact .nil
  | cons d ds ih => cases r with | cons x r => cases k with
    | zero => exact .nil
    | succ a => exact .cons x (ih r)
theorem RepAll.of_get {X : List Addr} {h : Heap} {vs : List Value} {ds : List D} (r : RepAll X h vs ds) (a k : Nat) : RepAll X h ((vs.drop a).take k) ((ds.drop a).take k) := r.drop.take
theorem RepAll.cut {X : List Addr} {h : Heap} {vs : List Value} {ds : List D} (r : RepAll X h vs ds) (i j : Option Int) : RepAll X h (cut vs i j) (cut ds i j) := by
  unfold Mine.cut
  rw [r.length]
  exact r.of_get _ _
theorem slicePick_cut (vs : List Value) (i j : Option Int) : slicePick vs.toArray i j none = (cut vs i j).toArray := by
  rw [slicePick_plain]; simp [cut]
theorem partD_is {X : List Addr} {h : Heap} {v : Value} {i : Option Int} (r : Rep X h v (partD i)) : IsPart v i := by
  cases i with
  | none => cases r; exact .none
  | some i => cases r; exact .int _ _
theorem ev_cut_list {e : Expr} {lo hi : Option Expr} {p pos : Pos} {l : List D} {i j : Option Int} (h : Ev G n env ρ ow e (.list l)) (h₁ : EvP G n env ρ ow lo i) (h₂ : EvP G n env ρ ow hi j) (hl : l.length ≤ sizeLine) :
    Ev G n env ρ ow (.Subscript e (.Slice lo hi none p) pos) (.list (cut l i j)) := .mk <| fun X A s E R F => by
  refine Subscript_ (wpAny_mono (h.go X A s E R F) (fun v s₁ q => wpAny_Slice ?_) fun _ _ x => x)
  refine wpAny_mono (h₁.go X A s₁ E R (F.keeps q.2)) (fun vl s₂ q₂ => ?_) fun _ _ x => x
  refine wpAny_mono (h₂.go X A s₂ E R (F.keeps (q.2.trans q₂.2))) (fun vu s₃ q₃ => ?_) fun _ _ x => x
  rw [evalPart_none]
  refine wpAny_pure ?_
  obtain ⟨q, g⟩ := q
  cases q with | @list a vs hL hf ra =>
  have g3 := (g.trans q₂.2).trans q₃.2
  have k3 := (q₂.2.trans q₃.2).heap
  have hL3 : s₃.heap.IsList a vs.toArray := hL.isList.at fun o e => k3 a o e
  have hL' : (s₃.heap.push { cls := .type "slice", data := .fields #[vl, vu, .none] }).IsList a vs.toArray := hL3.push _
  refine tail_any (ops := [.ref s₃.heap.objs.size, .ref a]) hL'.typeIs slot_list_getitem.lookup
    (wpAny_getItem_list_slice hL' (Heap.IsSliceOf.new ..) (partD_is (q₂.1.keeps q₃.2.heap)) (partD_is q₃.1) .none (by simp) ?_ (by rw [List.size_toArray, ra.length]; exact hl)) rfl
  rw [slicePick_cut]
  have gg : Grow s₃ { s₃ with heap := s₃.heap.push { cls := .type "slice", data := .fields #[vl, vu, .none] } } := .push _ _ _
  refine ⟨.list ⟨_, Heap.get?_push_size _ rfl⟩ ((F.live.keeps g3.heap).keeps gg.heap).new (((ra.cut i j).keeps k3).keeps fun _ _ e => Heap.get?_push_of_some _ (Heap.get?_push_of_some _ e)), (g3.trans gg).trans ?_⟩
  exact ⟨⟨_, _, rfl⟩, fun _ _ e => Heap.get?_push_of_some _ e⟩
end
end
section
noncomputable def noStar (es : List Expr) : Bool := es.all fun e => match e with | .Starred .. => false | _ => true
theorem noStar_tail {e : Expr} {es : List Expr} (h : noStar (e :: es) = true) : noStar es = true := by simp only [noStar, List.all_cons, Bool.and_eq_true] at h; exact h.2
theorem starEach_plain {env : Env} : ∀ {es : List Expr}, noStar es = true → starEach es env = es.map fun e => (false, eval e env)
  | [], _ => rfl
  | e :: es, h => by
    have h2 := starEach_plain (env := env) (noStar_tail h)
    cases e <;> first | (simp [noStar] at h; done) | (rw [List.map_cons, ← h2]; rfl)
theorem starEach_cons {env : Env} {e : Expr} {es : List Expr} (h : noStar (e :: es) = true) : starEach (e :: es) env = (false, eval e env) :: starEach es env := by
  rw [starEach_plain h, starEach_plain (noStar_tail h)]; rfl
theorem backTo_any {env : Env} {pos : Pos} {es : List Expr} (h : noStar es = true) : (backTo pos (starEach es env)).any (·.1) = false := by
  rw [starEach_plain h]
  simp [backTo, List.any_eq_false]
noncomputable def notAttr : Expr → Bool | .Attribute .. => false | _ => true
theorem call_eq {fe : Expr} {es : List Expr} {kws : List Keyword} {pos : Pos} {env : Env} (h : notAttr fe = true) : eval (.Call fe es kws pos) env = (do callWith pos (← eval fe env) [] (backTo pos (starEach es env)) (backToKw pos (keywordEach kws env))) := by
  cases fe <;> first | rfl | cases h
section
variable {G : Gd} {n : Nat} {env : Env} {X : List Addr} {ρ : Loc} {ow : Own}
theorem ev_call0 {fe : Expr} {f : Addr} {pos : Pos} {d : D} (hf : Ev G n env ρ ow fe (.raw (.ref f))) (hk : keepIn G.K (.ref f) = true)
    (h : FnIs G n (.ref f) [] d) (hattr : notAttr fe = true) : Ev G n env ρ ow (.Call fe [] [] pos) d := .mk <| fun X A s E R F => by
  refine Call_ (wpAny_mono (hf.go X A s E R F) (fun v s₁ q => ?_) fun _ _ x => x) (call_eq hattr)
  obtain ⟨q, g⟩ := q
  cases q
  have F₁ := F.keeps g
  refine callWith_K0 (G.X.keeps F₁.base) hk ?_
  exact wpAny_mono (h.go X A s₁ E [] R F₁.base F₁.live .nil) (fun v s₃ q₃ => ⟨q₃.1, g.trans q₃.2⟩) fun _ _ x => x
theorem ev_call {fe : Expr} {f : Addr} {e : Expr} {es : List Expr} {pos : Pos} {ds : List D} {d : D} (hf : Ev G n env ρ ow fe (.raw (.ref f))) (hk : keepIn G.K (.ref f) = true) (ha : EvAll G n env ρ ow (e :: es) ds) (hs : noStar (e :: es) = true)
    (h : FnIs G n (.ref f) ds d) (hattr : notAttr fe = true) : Ev G n env ρ ow (.Call fe (e :: es) [] pos) d := .mk <| fun X A s E R F => by
  refine Call_ (wpAny_mono (hf.go X A s E R F) (fun v s₁ q => ?_) fun _ _ x => x) (call_eq hattr)
  obtain ⟨q, g⟩ := q
  cases q
  have F₁ := F.keeps g
  refine callWith_K (G.X.keeps F₁.base) hk (wpAny_mono (ha.go pos X A s₁ E R F₁) (fun vs s₂ q₂ => ⟨G.X.keeps (F₁.keeps q₂.2).base, ?_⟩) fun _ _ x => x) (starEach_cons hs) (backTo_any (noStar_tail hs))
  exact wpAny_mono (h.go X A s₂ E vs R (F₁.keeps q₂.2).base (F₁.keeps q₂.2).live q₂.1) (fun v s₃ q₃ => ⟨q₃.1, (g.trans q₂.2).trans q₃.2⟩) fun _ _ x => x
theorem ev_callT {fe : Expr} {T : String} {e : Expr} {es : List Expr} {pos : Pos} {ds : List D} {d : D} (hf : Ev G n env ρ ow fe (.raw (.type T))) (ha : EvAll G n env ρ ow (e :: es) ds) (hs : noStar (e :: es) = true)
    (h : FnIs G n (.type T) ds d) (hattr : notAttr fe = true) : Ev G n env ρ ow (.Call fe (e :: es) [] pos) d := .mk <| fun X A s E R F => by
  refine Call_ (wpAny_mono (hf.go X A s E R F) (fun v s₁ q => ?_) fun _ _ x => x) (call_eq hattr)
  obtain ⟨q, g⟩ := q
  cases q
  have F₁ := F.keeps g
  refine callWith_type1 (wpAny_mono (ha.go pos X A s₁ E R F₁) (fun vs s₂ q₂ => ?_) fun _ _ x => x) (starEach_cons hs) (backTo_any (noStar_tail hs))
  exact wpAny_mono (h.go X A s₂ E vs R (F₁.keeps q₂.2).base (F₁.keeps q₂.2).live q₂.1) (fun v s₃ q₃ => ⟨q₃.1, (g.trans q₂.2).trans q₃.2⟩) fun _ _ x => x
theorem ev_callB {fe : Expr} {id : String} {e : Expr} {es : List Expr} {pos : Pos} {ds : List D} {d : D} (hf : Ev G n env ρ ow fe (.raw (.builtin id))) (ha : EvAll G n env ρ ow (e :: es) ds) (hs : noStar (e :: es) = true)
    (h : FnIs G n (.builtin id) ds d) (hattr : notAttr fe = true) : Ev G n env ρ ow (.Call fe (e :: es) [] pos) d := .mk <| fun X A s E R F => by
  refine Call_ (wpAny_mono (hf.go X A s E R F) (fun v s₁ q => ?_) fun _ _ x => x) (call_eq hattr)
  obtain ⟨q, g⟩ := q
  cases q
  have F₁ := F.keeps g
  refine callWith_builtin1 (wpAny_mono (ha.go pos X A s₁ E R F₁) (fun vs s₂ q₂ => ?_) fun _ _ x => x) (starEach_cons hs) (backTo_any (noStar_tail hs))
  exact wpAny_mono (h.go X A s₂ E vs R (F₁.keeps q₂.2).base (F₁.keeps q₂.2).live q₂.1) (fun v s₃ q₃ => ⟨q₃.1, (g.trans q₂.2).trans q₃.2⟩) fun _ _ x => x
structure MethIs (d : D) (name : Str) (id : String) : Prop where
  go : ∀ (M : Model) (X : List Addr) (A : Around) (s : Shared) (E : Value → Shared → Prop) (pl : Sem Bool) (Q : Value × List Value → Shared → Prop) v, Rep X s.heap v d → Q (.builtin id, [v]) s → wpAny M A (getMethod v name pl) Q E s
theorem meth_str {l : List Nat} {name : Str} {id : String} (slot : Slot "str" name id) (ht : typeOf (.builtin id) = pure (.type "method_descriptor")) : MethIs (.str l) name id := .mk <| fun M X A s E pl Q v r h => by
  cases r; exact getMethod_builtin (typeIs_str s _ _) PySem.F.plainAttrs_str slot ht (fun a e => by cases e) h
theorem meth_bytes {l : List UInt8} {name : Str} {id : String} (hp : PlainAttrs "bytes") (slot : Slot "bytes" name id) (ht : typeOf (.builtin id) = pure (.type "method_descriptor")) : MethIs (.bytes l) name id := .mk <| fun M X A s E pl Q v r h => by
  cases r; exact getMethod_builtin (T := "bytes") rfl hp slot ht (fun a e => by cases e) h
theorem meth_list {l : List D} {name : Str} {id : String} (slot : Slot "list" name id) (ht : typeOf (.builtin id) = pure (.type "method_descriptor")) : MethIs (.list l) name id := .mk <| fun M X A s E pl Q v r h => by
  cases r with | list hl hf ra => exact getMethod_builtin hl.isList.typeIs PySem.F.plainAttrs_list slot ht (fun a e => by cases e; exact hl.noDict) h
theorem ev_meth {o : Expr} {name : Str} {id : String} {apos pos : Pos} {e : Expr} {es : List Expr} {d₀ d : D} {ds : List D} (ho : Ev G n env ρ ow o d₀) (hm : MethIs d₀ name id) (ha : EvAll G n env ρ ow (e :: es) ds) (hs : noStar (e :: es) = true)
    (h : FnIs G n (.builtin id) (d₀ :: ds) d)
    {pl : Sem Bool}
    (he : eval (.Call (.Attribute o name apos) (e :: es) [] pos) env = (do
        let ov ← eval o env
        standAt apos.atName
        let (f, first) ← holding [ov] (getMethod ov name pl)
        callWith pos f first (backTo pos (starEach (e :: es) env)) [])) : Ev G n env ρ ow (.Call (.Attribute o name apos) (e :: es) [] pos) d := .mk <| fun X A s E R F => by
  refine MethodCall_ (wpAny_mono (ho.go X A s E R F) (fun v s₁ q => ?_) fun _ _ x => x) he
  refine hm.go _ X A s₁ E _ _ v q.1 ?_
  refine callWith_method1 (wpAny_mono (ha.go pos X A s₁ E R (F.keeps q.2)) (fun vs s₂ q₂ => ?_) fun _ _ x => x) (starEach_cons hs) (backTo_any (noStar_tail hs))
  exact wpAny_mono (h.go X A s₂ E (v :: vs) R (F.keeps (q.2.trans q₂.2)).base (F.keeps (q.2.trans q₂.2)).live (.cons (q.1.keeps q₂.2.heap) q₂.1)) (fun v s₃ q₃ => ⟨q₃.1, (q.2.trans q₂.2).trans q₃.2⟩) fun _ _ x => x
end
theorem ns_unique {h : Heap} {a : Addr} {m m' : Str → Option Value} (x : h.Ns a m) (y : h.Ns a m') : m = m' := by
  obtain ⟨o, es, ep, ho, hd, _, hm⟩ := x
  obtain ⟨o', es', ep', ho', hd', _, hm'⟩ := y
  rw [ho] at ho'; cases ho'
  rw [hd] at hd'; cases hd'
  funext z; rw [← hm z, ← hm' z]
theorem ns_look {h : Heap} {a : Addr} {m : Str → Option Value} (x : h.Ns a m) : ∀ o, h.get? a = some o → ¬ look o := fun o e l => by
  obtain ⟨o', es, ep, ho, hd, _⟩ := x
  rw [ho] at e; cases e
  rcases l with ⟨xs, k, q⟩ | ⟨_, vs, q⟩ | ⟨fd, q⟩ | q <;> (rw [hd] at q; cases q)
theorem cell_look {h : Heap} {a : Addr} {v : Option Value} (x : h.IsCell a v) : ∀ o, h.get? a = some o → ¬ look o := fun o e l => by
  obtain ⟨o', ho, hd⟩ := x
  rw [ho] at e; cases e
  rcases l with ⟨xs, k, q⟩ | ⟨_, vs, q⟩ | ⟨fd, q⟩ | q <;> (rw [hd] at q; cases q)
theorem ns_ne_cell {h : Heap} {a c : Addr} {m : Str → Option Value} {v : Option Value} (x : h.Ns a m) (y : h.IsCell c v) : a ≠ c := fun q => by
  subst q
  obtain ⟨o, es, ep, ho, hd, _⟩ := x
  obtain ⟨o', ho', hd'⟩ := y
  rw [ho] at ho'; cases ho'; rw [hd] at hd'; cases hd'
structure Turn (env : Env) (ow : Own) (s s' : Shared) : Prop where
  same : ∃ h tk, s' = { s with heap := h, toks := tk }
  heap : ∀ b o, ¬ Mut env ow b → s.heap.get? b = some o → s'.heap.get? b = some o
theorem Grow.turn {env : Env} {ow : Own} {s s' : Shared} (x : Grow s s') : Turn env ow s s' := ⟨x.same, fun b o _ e => x.heap b o e⟩
theorem Turn.trans {env : Env} {ow : Own} {s₁ s₂ s₃ : Shared} (x : Turn env ow s₁ s₂) (y : Turn env ow s₂ s₃) : Turn env ow s₁ s₃ := by
  obtain ⟨⟨h, t, rfl⟩, k⟩ := x
  obtain ⟨⟨h', t', rfl⟩, k'⟩ := y
  exact ⟨⟨h', t', rfl⟩, fun b o p e => k' b o p (k b o p e)⟩
theorem Turn.but {env : Env} {ow : Own} {s : Shared} {h : Heap} {t : Nat} {a : Addr} (k : Heap.SameBut a s.heap h) (ha : Mut env ow a) : Turn env ow s { s with heap := h, toks := t } :=
  ⟨⟨h, t, rfl⟩, fun b o p e => (k.2 b fun q => p (q ▸ ha)).trans e⟩
theorem Turn.more {env : Env} {ow ow' : Own} {s s' : Shared} (x : Turn env ow' s s') (h : ∀ b, Mut env ow' b → Mut env ow b ∨ s.heap.get? b = none) : Turn env ow s s' :=
  ⟨x.same, fun b o p e => x.heap b o (fun q => (h b q).elim p fun z => by rw [z] at e; cases e) e⟩
section
variable {G : Gd} {env : Env} {X : List Addr} {ρ : Loc} {ow : Own} {s : Shared}
theorem Fits.setLocal (F : Fits G env X ρ ow s) {x : Str} {v : Value} {d : D} {m : Str → Option Value} {h' : Heap} {t : Nat} (hk : env.kindOf x = some .local) (hr : Rep X s.heap v d)
    (hn : s.heap.Ns env.locals m) (hn' : h'.Ns env.locals (fun y => if y = x then some v else m y)) (hs : Heap.SameBut env.locals s.heap h') : Fits G env X ((x, d) :: ρ) ow { s with heap := h', toks := t } := by
  have hsame : Same X s.heap h' := .of_but hs (.inr (ns_look hn))
  refine ⟨fun b o e => (hs.2 b fun q => F.apart b o e (.inl q)).trans (F.base b o e), F.fn, F.gl, F.bl, ⟨_, hn'⟩, fun y d' e => ?_, fun p hp => ⟨?_, (F.owns p hp).2⟩, F.nd, fun a ha => ?_, F.apart, F.inj, fun y c e => ?_, F.sep⟩
  · rw [List.lookup_cons] at e
    cases hb : y == x with
    | true =>
      rw [hb] at e; cases e
      have : y = x := beq_iff_eq.mp hb
      subst this
      exact .loc _ v hk hn' (by simp) (hr.mono hsame)
    | false =>
      rw [hb] at e
      have hyx : y ≠ x := by simpa using hb
      cases F.vars y d' e with
      | loc m₂ v₂ hk₂ hn₂ hm₂ hr₂ =>
        have := ns_unique hn hn₂; subst this
        exact .loc _ v₂ hk₂ hn' (by simp [hyx, hm₂]) (hr₂.mono hsame)
      | cell c v₂ hk₂ hc₂ hv₂ hr₂ => exact .cell c v₂ hk₂ hc₂ (hv₂.sameBut hs (ns_ne_cell hn hv₂).symm) (hr₂.mono hsame)
  · exact (F.owns p hp).1.at (fun o e => (hs.2 _ (F.sep p hp).1).trans e) hsame
  · obtain ⟨o, e⟩ := F.live a ha
    by_cases q : a = env.locals
    · subst q; obtain ⟨o', _, _, e', _⟩ := hn'; exact ⟨o', e'⟩
    · exact ⟨o, (hs.2 a q).trans e⟩
  · obtain ⟨v, hv⟩ := F.cel y c e
    exact ⟨v, hv.sameBut hs (ns_ne_cell hn hv).symm⟩
theorem Fits.setCell (F : Fits G env X ρ ow s) {x : Str} {v : Value} {d : D} {c : Addr} {v₀ : Option Value} {h' : Heap} {t : Nat} (hk : env.kindOf x = some .cell) (hc : env.cells.lookup x = some c) (hr : Rep X s.heap v d)
    (hv : s.heap.IsCell c v₀) (hv' : h'.IsCell c (some v)) (hs : Heap.SameBut c s.heap h') : Fits G env X ((x, d) :: ρ) ow { s with heap := h', toks := t } := by
  have hsame : Same X s.heap h' := .of_but hs (.inr (cell_look hv))
  obtain ⟨m, hn⟩ := F.ns
  have hn' : h'.Ns env.locals m := hn.sameBut hs (ns_ne_cell hn hv)
  refine ⟨fun b o e => (hs.2 b fun q => F.apart b o e (.inr (.inl ⟨x, q ▸ hc⟩))).trans (F.base b o e), F.fn, F.gl, F.bl, ⟨_, hn'⟩, fun y d' e => ?_, fun p hp => ⟨?_, (F.owns p hp).2⟩, F.nd, fun a ha => ?_, F.apart, F.inj, fun y c₂ e => ?_, F.sep⟩
  · rw [List.lookup_cons] at e
    cases hb : y == x with
    | true =>
      rw [hb] at e; cases e
      have : y = x := beq_iff_eq.mp hb
      subst this
      exact .cell c v (.inl hk) hc hv' (hr.mono hsame)
    | false =>
      rw [hb] at e
      have hyx : y ≠ x := by simpa using hb
      cases F.vars y d' e with
      | loc m₂ v₂ hk₂ hn₂ hm₂ hr₂ => exact .loc _ v₂ hk₂ (hn₂.sameBut hs (ns_ne_cell hn₂ hv)) hm₂ (hr₂.mono hsame)
      | cell c₂ v₂ hk₂ hc₂ hv₂ hr₂ => exact .cell c₂ v₂ hk₂ hc₂ (hv₂.sameBut hs fun q => hyx (F.inj y x c (q ▸ hc₂) hc)) (hr₂.mono hsame)
  · exact (F.owns p hp).1.at (fun o e => (hs.2 _ ((F.sep p hp).2 x c hc)).trans e) hsame
  · obtain ⟨o, e⟩ := F.live a ha
    by_cases q : a = c
    · subst q; obtain ⟨o', e', _⟩ := hv'; exact ⟨o', e'⟩
    · exact ⟨o, (hs.2 a q).trans e⟩
  · by_cases q : c₂ = c
    · subst q; exact ⟨_, hv'⟩
    · obtain ⟨v₃, hv₃⟩ := F.cel y c₂ e; exact ⟨v₃, hv₃.sameBut hs q⟩
end
noncomputable def storable (env : Env) (x : Str) : Bool := env.kindOf x == some .local || (env.kindOf x == some .cell && (env.cells.lookup x).isSome)
theorem storable_ok {env : Env} {x : Str} (h : storable env x = true) : env.kindOf x = some .local ∨ (env.kindOf x = some .cell ∧ ∃ c, env.cells.lookup x = some c) := by
  rcases Bool.or_eq_true_iff.mp h with h | h
  · exact .inl (by simpa using h)
  · obtain ⟨h1, h2⟩ := Bool.and_eq_true_iff.mp h
    exact .inr ⟨by simpa using h1, Option.isSome_iff_exists.mp h2⟩
structure Out where
  base : List Addr
  next : Loc → Own → Prop
  brk : Loc → Own → Prop
  cont : Loc → Own → Prop
  ret : D → Loc → Own → Prop
noncomputable def Out.fn (X : List Addr) (d : D) : Out := ⟨X, fun _ _ => False, fun _ _ => False, fun _ _ => False, fun r _ _ => r = d⟩
noncomputable def OutIs (G : Gd) (env : Env) (o : Out) (f : Flow) (s : Shared) : Prop := match f with
  | .ret v => ∃ d X ρ ow, (∀ a ∈ o.base, a ∈ X) ∧ Rep X s.heap v d ∧ o.ret d ρ ow ∧ Fits G env X ρ ow s
  | .next => ∃ X ρ ow, (∀ a ∈ o.base, a ∈ X) ∧ o.next ρ ow ∧ Fits G env X ρ ow s
  | .brk => ∃ X ρ ow, (∀ a ∈ o.base, a ∈ X) ∧ o.brk ρ ow ∧ Fits G env X ρ ow s
  | .cont => ∃ X ρ ow, (∀ a ∈ o.base, a ∈ X) ∧ o.cont ρ ow ∧ Fits G env X ρ ow s
noncomputable def seqP (M : Model) (A : Around) (env : Env) (E : Value → Shared → Prop) : List (List Stmt) → (Flow → Shared → Prop) → Flow → Shared → Prop
  | [], Q => Q
  | b :: bs, Q => fun f s => match f with
    | .next => wpAny M A (execs b env) (seqP M A env E bs Q) E s
    | f => Q f s
theorem seqP_mono {M : Model} {A : Around} {env : Env} {E : Value → Shared → Prop} : ∀ {bs : List (List Stmt)} {Q Q' : Flow → Shared → Prop}, (∀ f s, Q f s → Q' f s) → ∀ f s, seqP M A env E bs Q f s → seqP M A env E bs Q' f s
  | [], _, _, h, f, s, x => h f s x
  | b :: bs, _, _, h, f, s, x => by
    cases f with
    | next => exact wpAny_mono x (seqP_mono h) fun _ _ e => e
    | _ => exact h _ s x
theorem seqP_other {M : Model} {A : Around} {env : Env} {E : Value → Shared → Prop} : ∀ {bs : List (List Stmt)} {Q : Flow → Shared → Prop} {f : Flow} {s : Shared}, f ≠ .next → Q f s → seqP M A env E bs Q f s
  | [], _, _, _, _, x => x
  | b :: bs, _, f, s, h, x => by
    cases f with
    | next => exact absurd rfl h
    | _ => exact x
structure Ex (G : Gd) (n : Nat) (env : Env) (ρ : Loc) (ow : Own) (bs : List (List Stmt)) (o : Out) : Prop where
  go : ∀ (X : List Addr) (A : Around) (s : Shared) (E : Value → Shared → Prop), Room n A → (∀ a ∈ o.base, a ∈ X) → Fits G env X ρ ow s →
    seqP (model G.prog G.w) A env E bs (fun f s' => Turn env ow s s' ∧ OutIs G env o f s') .next s
section
variable {G : Gd} {n : Nat} {env : Env} {ρ : Loc} {ow : Own} {bs : List (List Stmt)} {o : Out}
theorem Ex.from {ρ' : Loc} {ow' : Own} {X : List Addr} {A : Around} {s s' : Shared} {E : Value → Shared → Prop} (x : Ex G n env ρ' ow' bs o) (R : Room n A) (B : ∀ a ∈ o.base, a ∈ X) (F : Fits G env X ρ' ow' s') (t : Turn env ow s s') (hm : ∀ b, Mut env ow' b → Mut env ow b ∨ s.heap.get? b = none) :
    seqP (model G.prog G.w) A env E bs (fun f s₂ => Turn env ow s s₂ ∧ OutIs G env o f s₂) .next s' :=
  seqP_mono (fun f s₂ q => ⟨by
    obtain ⟨⟨h, tk, rfl⟩, k⟩ := t
    obtain ⟨⟨h', tk', rfl⟩, k'⟩ := q.1
    exact ⟨⟨h', tk', rfl⟩, fun b o p e => k' b o (fun q => (hm b q).elim p fun z => by rw [z] at e; cases e) (k b o p e)⟩, q.2⟩) _ _ (x.go X A s' E R B F)
theorem Ex.from' {ρ' : Loc} {X : List Addr} {A : Around} {s s' : Shared} {E : Value → Shared → Prop} (x : Ex G n env ρ' ow bs o) (R : Room n A) (B : ∀ a ∈ o.base, a ∈ X) (F : Fits G env X ρ' ow s') (t : Turn env ow s s') :
    seqP (model G.prog G.w) A env E bs (fun f s₂ => Turn env ow s s₂ ∧ OutIs G env o f s₂) .next s' := x.from R B F t fun _ => .inl
theorem ex_end (h : o.next ρ ow) : Ex G n env ρ ow [] o := .mk <| fun X A s E R B F => ⟨(Grow.refl s).turn, X, ρ, ow, B, h, F⟩
theorem ex_nil (h : Ex G n env ρ ow bs o) : Ex G n env ρ ow ([] :: bs) o := .mk <| fun X A s E R B F => wpAny_execs_nil (h.go X A s E R B F)
theorem store_any {prog : Program} {w : World} {A : Around} {E : Value → Shared → Prop} {X : List Addr} {s : Shared} {x : Str} {v : Value} {d : D} {Q : Unit → Shared → Prop} (hk : storable env x = true) (F : Fits G env X ρ ow s) (r : Rep X s.heap v d)
    (h : ∀ h' tk, Fits G env X ((x, d) :: ρ) ow { s with heap := h', toks := tk } → Turn env ow s { s with heap := h', toks := tk } → (∀ b o, b ≠ env.locals → (env.kindOf x = some .cell → ∀ c, env.cells.lookup x = some c → b ≠ c) → s.heap.get? b = some o → h'.get? b = some o) → Q () { s with heap := h', toks := tk }) :
    wpAny (model prog w) A (storeName env x v) Q E s := by
  rcases storable_ok hk with hl | ⟨hc, c, hcl⟩
  · obtain ⟨m, hn⟩ := F.ns
    refine wpAny_storeName_local hl hn (fun h' hn' hs' => ?_) (by rw [F.fn]; rfl)
    exact h _ _ (F.setLocal hl r hn hn' hs') (.but hs' (.inl rfl)) fun b o hb _ e => (hs'.2 b hb).trans e
  · obtain ⟨v₀, hv⟩ := F.cel x c hcl
    refine wpAny_storeName_cell F.fn hc hcl hv fun h' hv' hs' => ?_
    exact h _ s.toks (F.setCell (t := s.toks) hc hcl r hv hv' hs') (.but (t := s.toks) hs' (.inr (.inl ⟨x, hcl⟩))) fun b o _ hb e => (hs'.2 b (hb hc c hcl)).trans e
theorem ex_assign {x : Str} {px pos : Pos} {e : Expr} {rest : List Stmt} {d : D} (hk : storable env x = true) (hs : swapsWith e (some (.Name x px)) pos.line env = pure false) (he : Ev G n env ρ ow e d)
    (h : Ex G n env ((x, d) :: ρ) ow (rest :: bs) o) : Ex G n env ρ ow ((.Assign [.Name x px] e pos :: rest) :: bs) o := .mk <| fun X A s E R B F => by
  refine wpAny_execs_cons (wpAny_Assign_Name (wpAny_mono (he.go X A s E R F) (fun v s₁ q => ?_) fun _ _ y => y) hs)
  exact store_any hk (F.keeps q.2) q.1 fun h' tk F' t' _ => h.from' R B F' (q.2.turn.trans t')
theorem ex_ret {e : Expr} {pos : Pos} {rest : List Stmt} {d : D} (he : Ev G n env ρ ow e d) (h : o.ret d ρ ow) : Ex G n env ρ ow ((.Return (some e) pos :: rest) :: bs) o := .mk <| fun X A s E R B F =>
  wpAny_execs_cons (wpAny_Return_some (wpAny_mono (he.go X A s E R F) (fun v s₁ q => seqP_other (by simp) ⟨q.2.turn, d, X, ρ, ow, B, q.1, h, F.keeps q.2⟩) fun _ _ y => y))
theorem ex_brk {pos : Pos} {rest : List Stmt} (h : o.brk ρ ow) : Ex G n env ρ ow ((.Break pos :: rest) :: bs) o := .mk <| fun X A s E R B F =>
  wpAny_execs_cons (wpAny_Break (seqP_other (by simp) ⟨(Grow.refl s).turn, X, ρ, ow, B, h, F⟩))
theorem ex_cont {pos : Pos} {rest : List Stmt} (h : o.cont ρ ow) : Ex G n env ρ ow ((.Continue pos :: rest) :: bs) o := .mk <| fun X A s E R B F =>
  wpAny_execs_cons (wpAny_Continue (seqP_other (by simp) ⟨(Grow.refl s).turn, X, ρ, ow, B, h, F⟩))
theorem ex_if {t : Expr} {a b rest : List Stmt} {pos : Pos} {c : Bool} (ht : Tst G n env ρ ow t c) (h₁ : c = true → Ex G n env ρ ow (a :: rest :: bs) o) (h₂ : c = false → Ex G n env ρ ow (b :: rest :: bs) o) :
    Ex G n env ρ ow ((.If t a b pos :: rest) :: bs) o := .mk <| fun X A s E R B F => by
  refine wpAny_execs_cons (wpAny_If (wpAny_mono (ht.go X A s E R F) (fun c' s₁ q => ?_) fun _ _ y => y))
  obtain ⟨rfl, g⟩ := q
  cases c' with
  | true => exact wpAny_mono (h := (h₁ rfl).from' R B (F.keeps g) g.turn) (fun f s₂ q => by cases f <;> first | exact q | exact seqP_other (by simp) q) fun _ _ y => y
  | false => exact wpAny_mono (h := (h₂ rfl).from' R B (F.keeps g) g.turn) (fun f s₂ q => by cases f <;> first | exact q | exact seqP_other (by simp) q) fun _ _ y => y
end
theorem bindL_get {kindOf : Str → Option NameKind} : ∀ {binds : List (Str × Value)} {m : Str → Option Value} {x : Str} {v : Value}, (binds.map (·.1)).Nodup → kindOf x = some .local → (binds.lookup x = some v ∨ (binds.lookup x = none ∧ m x = some v)) → bindL kindOf binds m x = some v
  | [], m, x, v, _, _, h => by rcases h with h | ⟨_, h⟩ <;> first | (cases h; done) | exact h
  | (y, w) :: r, m, x, v, hn, hk, h => by
    unfold bindL
    simp only [List.map_cons, List.nodup_cons] at hn
    by_cases hy : x = y
    · subst hy
      rw [if_pos hk]
      refine bindL_get hn.2 hk (.inr ⟨?_, ?_⟩)
      · cases e : r.lookup x with
        | none => rfl
        | some w' => exact absurd (List.mem_map.mpr ⟨_, mem_of_lookup e, rfl⟩) hn.1
      · rcases h with h | ⟨h, _⟩ <;> simp only [List.lookup_cons, beq_self_eq_true] at h
        · simp [Option.some.inj h]
        · cases h
    · have hb : (x == y) = false := by simpa using hy
      refine bindL_get hn.2 hk ?_
      rcases h with h | ⟨h, hm⟩ <;> simp only [List.lookup_cons, hb] at h
      · exact .inl h
      · refine .inr ⟨h, ?_⟩
        split <;> simp [hy, hm]
theorem bindC_get {kindOf : Str → Option NameKind} : ∀ {binds : List (Str × Value)} {m : Str → Option Value} {x : Str} {v : Value}, (binds.map (·.1)).Nodup → kindOf x ≠ some .local → (binds.lookup x = some v ∨ (binds.lookup x = none ∧ m x = some v)) → bindC kindOf binds m x = some v
  | [], m, x, v, _, _, h => by rcases h with h | ⟨_, h⟩ <;> first | (cases h; done) | exact h
  | (y, w) :: r, m, x, v, hn, hk, h => by
    unfold bindC
    simp only [List.map_cons, List.nodup_cons] at hn
    by_cases hy : x = y
    · subst hy
      rw [if_neg hk]
      refine bindC_get hn.2 hk (.inr ⟨?_, ?_⟩)
      · cases e : r.lookup x with
        | none => rfl
        | some w' => exact absurd (List.mem_map.mpr ⟨_, mem_of_lookup e, rfl⟩) hn.1
      · rcases h with h | ⟨h, _⟩ <;> simp only [List.lookup_cons, beq_self_eq_true] at h
        · simp [Option.some.inj h]
        · cases h
    · have hb : (x == y) = false := by simpa using hy
      refine bindC_get hn.2 hk ?_
      rcases h with h | ⟨h, hm⟩ <;> simp only [List.lookup_cons, hb] at h
      · exact .inl h
      · refine .inr ⟨h, ?_⟩
        split <;> simp [hy, hm]
theorem zip_lookup {X : List Addr} {h : Heap} : ∀ {ns : List Str} {vs : List Value} {ds : List D} {x : Str} {d : D}, RepAll X h vs ds → (ns.zip ds).lookup x = some d → ∃ v, (ns.zip vs).lookup x = some v ∧ Rep X h v d
  | [], _, _, _, _, _, e => by simp at e
  | _ :: _, _, _, _, _, .nil, e => by simp at e
  | y :: ns, _, _, x, d, .cons hv r, e => by
    simp only [List.zip_cons_cons, List.lookup_cons] at e ⊢
    cases hb : x == y with
    | true => rw [hb] at e; cases e; exact ⟨_, rfl, hv⟩
    | false => rw [hb] at e; exact zip_lookup r e
theorem cells_mem_lookup {cs : List (Str × Addr)} (hp : cs.Pairwise fun x y => x.2 ≠ y.2) : ∀ n n' c, cs.lookup n = some c → cs.lookup n' = some c → n = n' := fun n n' c h h' => name_of_addr hp (mem_of_lookup h) (mem_of_lookup h')
theorem fn_of {G : Gd} {n : Nat} {f : Addr} {oc : Value} {od : Option Addr} {osl : Array (Option Value)} {fd : FuncData} {body : List Stmt} {ns : List Str} {ds : List D} {d : D}
    (ho : G.K.lookup f = some ⟨oc, od, .func fd, osl⟩) (hcd : codeIn G.K fd.code fd.qualname = true) (hbody : fd.body = .stmts body)
    (hbind : ∀ vs : List Value, vs.length = ds.length → bindArgs fd ⟨vs, []⟩ = pure (ns.zip vs)) (hclo : fd.closure = []) (hnd : ns.Nodup) (hlen : ns.length = ds.length)
    (hkind : (ns.all fun x => fd.scope.names.lookup x == some .local || fd.scope.names.lookup x == some .cell) = true)
    (hgl : fd.globals = mainGlobals) (hbl : fd.builtins = builtinsNs)
    (hco : fd.scope.isCoroutine = false) (hgen : fd.scope.isGenerator = false) (hk : fd.scope.kind = .function)
    (h : ∀ X L, Ex G n (callEnvC fd L f) (ns.zip ds) [] [body] (.fn X d)) : FnIs G (n + 1) (.ref f) ds d := .mk <| fun X A s E vs R hb hX ra => by
  have K₁ : G.K.In s.heap := G.X.keeps hb
  have hvl : vs.length = ds.length := ra.length
  have hkd : ∀ x ∈ ns.zip vs, fd.scope.names.lookup x.1 = some .local ∨ (fd.scope.names.lookup x.1 = some .cell ∧ ((cellsFrom (s.heap.objs.size + 1) fd.scope.names []).lookup x.1).isSome = true) := fun x hx => by
    have hx1 : x.1 ∈ ns := (List.of_mem_zip (a := x.1) (b := x.2) hx).1
    have := List.all_eq_true.mp hkind x.1 hx1
    rcases Bool.or_eq_true_iff.mp this with q | q
    · exact .inl (by simpa using q)
    · have q' : fd.scope.names.lookup x.1 = some .cell := by simpa using q
      exact .inr ⟨q', cellsFrom_some _ _ _ (.inl q')⟩
  refine wpAny_call (codeAny_call_cells R.depth (K₁ _ _ ho) rfl (G.T.nolimit.keeps hb) (codeRec_of K₁ hcd) hbody (hbind vs hvl) hclo hkd (fun s₁ C => ?_) hco hgen hk)
  have hg : Grow s s₁ := by obtain ⟨h', tk, rfl, k⟩ := C.done; exact .of k
  have hLs : ∀ b o, s.heap.get? b = some o → ¬ Mut (callEnvC fd s.heap.objs.size f) [] b := fun b o e q => by
    have hlt := Heap.lt_size e
    rcases q with q | ⟨y, q⟩ | q
    · exact Nat.lt_irrefl _ (q ▸ hlt)
    · exact absurd (C.above y b (mem_of_lookup q)) (Nat.not_lt.mpr (Nat.le_of_lt hlt))
    · cases q
  have F : Fits G (callEnvC fd s.heap.objs.size f) X (ns.zip ds) [] s₁ := by
    refine ⟨fun b o e => hg.heap b o (hb b o e), hk, hgl, hbl, ⟨_, C.toInCall.ns⟩, fun x d' e => ?_, fun p hp => (nomatch hp), .nil, hX.keeps hg.heap, fun b o e => hLs b o (hb b o e), cells_mem_lookup C.apart, fun y c e => ⟨_, C.cell y c e⟩, fun p hp => (nomatch hp)⟩
    obtain ⟨v, hv, hr⟩ := zip_lookup ra e
    have hnd' : ((ns.zip vs).map (·.1)).Nodup := by rw [List.map_fst_zip (by omega)]; exact hnd
    rcases hkd (x, v) (mem_of_lookup hv) with q | ⟨q, q2⟩
    · exact .loc _ v q C.toInCall.ns (bindL_get hnd' q (.inl hv)) (hr.keeps hg.heap)
    · obtain ⟨c, hc⟩ := Option.isSome_iff_exists.mp q2
      have := C.cell x c hc
      rw [bindC_get hnd' (by show fd.scope.names.lookup x ≠ _; rw [q]; decide) (.inl hv)] at this
      exact .cell c v (.inl q) hc this (hr.keeps hg.heap)
  refine wpAny_mono ((h X s.heap.objs.size).go X _ s₁ _ R.deeper (fun _ q => q) F) (fun fl s' q => ?_) fun _ _ y => y
  obtain ⟨t, q⟩ := q
  cases fl with
  | ret v =>
    obtain ⟨d', _, _, _, hB', r, e, _⟩ := q
    cases e
    refine ⟨r.sub hB', ?_⟩
    obtain ⟨⟨h₁, t₁, rfl⟩, _⟩ := hg
    obtain ⟨⟨h₂, t₂, rfl⟩, k⟩ := t
    exact ⟨⟨h₂, t₂, rfl⟩, fun b o e => k b o (hLs b o e) (by have := C.toInCall.keep b o e; exact this)⟩
  | _ => obtain ⟨_, _, _, _, e, _⟩ := q; exact e.elim
end
section
structure Run (prog : Program) (w : World) (A : Around) (target : Expr) (it : Value) (fp wr : List Addr) (ds : List D) (St : List Addr → Nat → Heap → Prop) : Prop where
  sub : ∀ b ∈ wr, b ∈ fp
  frame : ∀ X i h h', St X i h → (∀ b ∈ fp, ∀ o, h.get? b = some o → h'.get? b = some o) → Same X h h' → St X i h'
  lift : ∀ X i h a, St X i h → h.get? a = none → St (a :: X) i h
  item : ∀ (X : List Addr) (i : Nat) (d : D) (s : Shared) (Q : Value → Shared → Prop) (E : Value → Shared → Prop), (∀ b ∈ wr, b ∈ X) → ds[i]? = some d → St X i s.heap → Live X s.heap →
    (∀ v h' tk, Rep X h' v d → St X (i + 1) h' → (∀ b o, b ∉ wr → s.heap.get? b = some o → h'.get? b = some o) → (∀ b ∈ wr, ∃ o, h'.get? b = some o) → Q v { s with heap := h', toks := tk }) →
    wpAny (model prog w) A (pyNext it) (fun r s₁ => ∃ v, r = some v ∧ wpAny (model prog w) A (letOwnedTupleGo target it v) (fun _ s₂ => Q v s₂) E s₁) E s
  done : ∀ (X : List Addr) (s : Shared) (Q : Option Value → Shared → Prop) (E : Value → Shared → Prop), St X ds.length s.heap →
    (∀ h' tk, (∀ b o, b ∉ wr → s.heap.get? b = some o → h'.get? b = some o) → Q none { s with heap := h', toks := tk }) → wpAny (model prog w) A (pyNext it) Q E s
  self : ∀ (X : List Addr) i (s : Shared) (Q : Value → Shared → Prop) (E : Value → Shared → Prop), St X i s.heap → Q it s → wpAny (model prog w) A (pyIter it) Q E s
structure IterIs (target : Expr) (d : D) (ds : List D) : Prop where
  go : ∀ (prog : Program) (w : World) (X : List Addr) (A : Around) (s : Shared) (Q : Value → Shared → Prop) (E : Value → Shared → Prop) (v : Value), A.handled = none → Live X s.heap → Rep X s.heap v d →
    (∀ it fp wr St h' tk, (∀ A' : Around, A'.handled = none → Run prog w A' target it fp wr ds St) → St (wr ++ X) 0 h' → (∀ b o, s.heap.get? b = some o → h'.get? b = some o) →
      (∀ b ∈ wr, s.heap.get? b = none ∧ ∃ o, h'.get? b = some o) → (∀ b ∈ fp, b ∈ wr ∨ (b ∉ X ∧ ∃ o, s.heap.get? b = some o ∧ look o)) → Q it { s with heap := h', toks := tk }) →
    wpAny (model prog w) A (pyIter v) Q E s
noncomputable def ownedTypes : List String := ["enumerate", "zip", "dict_itemiterator", "dict_reverseitemiterator", "odict_iterator", "itertools.zip_longest", "itertools.pairwise"]
theorem letGo_plain {M : Model} {A : Around} {E : Value → Shared → Prop} {s : Shared} {target : Expr} {I : Addr} {v : Value} {o : Obj} {n : String} {Q : Unit → Shared → Prop} (ho : s.heap.get? I = some o) (hc : o.cls = .type n) (hn : ownedTypes.contains n = false) (h : Q () s) :
    wpAny M A (letOwnedTupleGo target (.ref I) v) Q E s := by
  have fin : ∀ a, wpAny M A (do
      let o ← load I
      match o.cls, o.data with
      | .type n, .fields vs =>
        if ["enumerate", "zip", "dict_itemiterator", "dict_reverseitemiterator", "odict_iterator", "itertools.zip_longest", "itertools.pairwise"].contains n && vs[0]? == some (rawInt a) then
          rule "for.unpacks-the-owned-tuple"
          updateField I 0 .none
      | _, _ => pure () : Sem Unit) Q E s := fun a => by
    refine wpAny_bind (wpAny_load ho ?_)
    rw [hc]
    cases hd : o.data with
    | fields vs =>
      have e : (["enumerate", "zip", "dict_itemiterator", "dict_reverseitemiterator", "odict_iterator", "itertools.zip_longest", "itertools.pairwise"].contains n) = false := hn
      simp only [e, Bool.false_and, Bool.false_eq_true, if_false]
      exact wpAny_pure h
    | _ => exact wpAny_pure h
  cases target <;> first
    | exact wpAny_pure h
    | (cases v <;> first | exact wpAny_pure h | exact fin _)
theorem Run.of_walks {prog : Program} {w : World} {A : Around} {target : Expr} {I : Addr} {fp : List Addr} {ds : List D} {P : Nat → Value → Prop} {St : Nat → Heap → Prop} {n : Nat} {T : String} {St' : List Addr → Heap → Prop}
    (W : Walks prog w A I fp [I] n P St) (hn : n = ds.length) (hI : I ∈ fp)
    (hT : ∀ i h, St i h → ∃ o, h.get? I = some o ∧ o.cls = .type T) (hown : ownedTypes.contains T = false)
    (hmono : ∀ X h h', St' X h → (∀ b ∈ fp, ∀ o, h.get? b = some o → h'.get? b = some o) → Same X h h' → St' X h')
    (hlift : ∀ X h a, St' X h → h.get? a = none → St' (a :: X) h)
    (hrep : ∀ X i d v h, ds[i]? = some d → P i v → St' X h → Rep X h v d)
    (hSt' : ∀ X h h', I ∈ X → St' X h → (∀ b o, b ∉ [I] → h.get? b = some o → h'.get? b = some o) → St' X h') :
    Run prog w A target (.ref I) fp [I] ds (fun X i h => St i h ∧ St' X h) where
  sub := fun b hb => by rw [List.mem_singleton.mp hb]; exact hI
  frame := fun X i h h' st hk hs => ⟨W.frame i h h' st.1 hk, hmono X h h' st.2 hk hs⟩
  lift := fun X i h a st ha => ⟨st.1, hlift X h a st.2 ha⟩
  item := fun X i d s Q E hw hd st hL hQ => by
    have hlt : i < n := by rw [hn]; exact (List.getElem?_eq_some_iff.mp hd).1
    refine W.item i s _ _ hlt st.1 fun v h' tk hP st' hk => ⟨v, rfl, ?_⟩
    obtain ⟨o, ho, hc⟩ := hT _ _ st'
    have s1 := hSt' X _ _ (hw I (List.mem_singleton.mpr rfl)) st.2 hk
    exact letGo_plain ho hc hown (hQ v h' tk (hrep X i d v h' hd hP s1) ⟨st', s1⟩ hk fun b hb => by rw [List.mem_singleton.mp hb]; exact ⟨o, ho⟩)
  done := fun X s Q E st hQ => by
    have e : St n s.heap := hn ▸ st.1
    exact W.done s _ _ e hQ
  self := fun X i s Q E st h => W.self i s Q E st.1 h
theorem same_of_but {X : List Addr} {h h' : Heap} {I : Addr} (k : ∀ b o, b ∉ [I] → h.get? b = some o → h'.get? b = some o) (hI : I ∈ X) : Same X h h' := fun b o hb _ e => k b o (fun q => hb (by rw [List.mem_singleton.mp q]; exact hI)) e
theorem iter_list {target : Expr} {ds : List D} : IterIs target (.list ds) ds := .mk fun prog w X A s Q E v hh hX r hQ => by
  cases r with | @list ax vs hl hf ra =>
  obtain ⟨nn, hax⟩ := id hl
  have hlt : ax < s.heap.objs.size := Heap.lt_size hax
  refine wpAny_pyIter_list hl.isList ?_
  have up : ∀ b o, s.heap.get? b = some o → (s.heap.push { cls := .type "list_iterator", data := .fields #[.ref ax, .int 0 0] }).get? b = some o := fun b o e => Heap.get?_push_of_some _ e
  have hnone : s.heap.get? s.heap.objs.size = none := by
    cases e : s.heap.get? s.heap.objs.size with
    | none => rfl
    | some o => exact absurd (Heap.lt_size e) (Nat.lt_irrefl _)
  refine hQ (.ref s.heap.objs.size) [s.heap.objs.size, ax] [s.heap.objs.size] (fun X i h => (h.IsListIter s.heap.objs.size ax i ∧ h.IsList ax vs.toArray) ∧ (PL h ax vs ∧ RepAll X h vs ds)) _ s.toks (fun A' hA' => ?_)
    ⟨⟨⟨_, Heap.get?_push_size _ rfl, rfl, rfl⟩, hl.isList.push _⟩, hl.at (up _), (ra.new hnone).keeps up⟩ up
    (fun b hb => by rw [List.mem_singleton.mp hb]; exact ⟨hnone, _, Heap.get?_push_size _ rfl⟩)
    (fun b hb => by
      rcases List.mem_cons.mp hb with rfl | hb
      · exact .inl (List.mem_singleton.mpr rfl)
      · rw [List.mem_singleton.mp hb]; exact .inr ⟨hf, _, hax, .inl ⟨_, _, rfl⟩⟩)
  have hne : ax ≠ s.heap.objs.size := Nat.ne_of_lt hlt
  exact Run.of_walks (T := "list_iterator") (Walks.list hA' s.heap.objs.size ax hne vs.toArray) (by rw [List.size_toArray, ra.length]) (List.mem_cons_self ..)
    (fun i h st => let ⟨o, ho, hc, _⟩ := st.1; ⟨o, ho, hc⟩) rfl
    (fun X h h' st hk hs => ⟨st.1.at fun o e => hk ax (by simp) o e, st.2.mono hs⟩) (fun X h a st ha => ⟨st.1, st.2.new ha⟩)
    (fun X i d v h hd hP st => by
      obtain ⟨v', hv', r'⟩ := st.2.get hd
      have : vs[i]? = some v := by simpa using hP
      rw [this] at hv'; cases hv'; exact r')
    (fun X h h' hI st hk => ⟨st.1.at fun o e => hk ax o (by simpa using hne) e, st.2.mono (same_of_but hk hI)⟩)
noncomputable def signs (l : List Nat) : List D := l.map fun c => .str [c]
theorem iter_str {target : Expr} {l : List Nat} : IterIs target (.str l) (signs l) := .mk fun prog w X A s Q E v hh hX r hQ => by
  cases r with | str l t =>
  have hnone : s.heap.get? s.heap.objs.size = none := by
    cases e : s.heap.get? s.heap.objs.size with
    | none => rfl
    | some o => exact absurd (Heap.lt_size e) (Nat.lt_irrefl _)
  have hrep : ∀ (X : List Addr) (i : Nat) (d : D) (v : Value) (h : Heap), (signs l)[i]? = some d → SignAt ⟨l.toArray⟩ i v → True → Rep X h v d := fun X i d v h hd hP _ => by
    obtain ⟨c, u, hc, rfl⟩ := hP
    have hc' : l[i]? = some c := by simpa using hc
    simp only [signs, List.getElem?_map, hc', Option.map_some, Option.some.injEq] at hd
    subst hd
    exact .str [c] u
  cases ha : l.toArray.all (· < 128)
  · refine wpAny_pyIter_wide ha ?_
    refine hQ (.ref s.heap.objs.size) [s.heap.objs.size] [s.heap.objs.size] (fun X i h => h.IsStrIter s.heap.objs.size "str_iterator" ⟨l.toArray⟩ t i ∧ True) _ _ (fun A' hA' => ?_)
      ⟨⟨_, Heap.get?_push_size _ rfl, rfl, rfl⟩, trivial⟩ (fun b o e => Heap.get?_push_of_some _ e) (fun b hb => by rw [List.mem_singleton.mp hb]; exact ⟨hnone, _, Heap.get?_push_size _ rfl⟩) (fun b hb => .inl hb)
    exact Run.of_walks (T := "str_iterator") (Walks.strWide hA' s.heap.objs.size ⟨l.toArray⟩ t) (by simp [signs]) (List.mem_cons_self ..)
      (fun i h st => let ⟨o, ho, hc, _⟩ := st; ⟨o, ho, hc⟩) rfl (fun _ _ _ _ _ _ => trivial) (fun _ _ _ _ _ => trivial) hrep (fun _ _ _ _ _ _ => trivial)
  · refine wpAny_pyIter_ascii ha ?_
    refine hQ (.ref s.heap.objs.size) [s.heap.objs.size] [s.heap.objs.size] (fun X i h => h.IsStrIter s.heap.objs.size "str_ascii_iterator" ⟨l.toArray⟩ t i ∧ True) _ _ (fun A' hA' => ?_)
      ⟨⟨_, Heap.get?_push_size _ rfl, rfl, rfl⟩, trivial⟩ (fun b o e => Heap.get?_push_of_some _ e) (fun b hb => by rw [List.mem_singleton.mp hb]; exact ⟨hnone, _, Heap.get?_push_size _ rfl⟩) (fun b hb => .inl hb)
    exact Run.of_walks (T := "str_ascii_iterator") (Walks.strAscii hA' s.heap.objs.size ⟨l.toArray⟩ t) (by simp [signs]) (List.mem_cons_self ..)
      (fun i h st => let ⟨o, ho, hc, _⟩ := st; ⟨o, ho, hc⟩) rfl (fun _ _ _ _ _ _ => trivial) (fun _ _ _ _ _ => trivial) hrep (fun _ _ _ _ _ _ => trivial)
noncomputable def zs (a : Int) (n : Nat) : List D := (List.range n).map fun (i : Nat) => .int (a + i)
theorem iter_rng {target : Expr} {a b : Int} (hs : Builtin.Range.small a b 1 = true) : IterIs target (.rng a b) (zs a (b - a).toNat) := .mk fun prog w X A s Q E v hh hX r hQ => by
  cases r with | rng hr hf =>
  have hnone : s.heap.get? s.heap.objs.size = none := by
    cases e : s.heap.get? s.heap.objs.size with
    | none => rfl
    | some o => exact absurd (Heap.lt_size e) (Nat.lt_irrefl _)
  refine wpAny_pyIter_range hr hs ?_
  rw [rangeSize_nat]
  refine hQ (.ref s.heap.objs.size) [s.heap.objs.size] [s.heap.objs.size] (fun X i h => IsRangeIter h s.heap.objs.size (a + (i : Nat) * 1) (((b - a).toNat : Int) - (i : Nat)) 1 ∧ True) _ _ (fun A' hA' => ?_)
    ⟨?_, trivial⟩ (fun b o e => Heap.get?_push_of_some _ e) (fun b hb => by rw [List.mem_singleton.mp hb]; exact ⟨hnone, _, Heap.get?_push_size _ rfl⟩) (fun b hb => .inl hb)
  · exact Run.of_walks (T := "range_iterator") (Walks.range hA' s.heap.objs.size a 1 (b - a).toNat) (by simp [zs]) (List.mem_cons_self ..)
      (fun i h st => ⟨_, st, rfl⟩) rfl (fun _ _ _ _ _ _ => trivial) (fun _ _ _ _ _ => trivial) (fun X i d v h hd hP _ => by
        obtain ⟨t, rfl⟩ := hP
        have hi : i < (b - a).toNat := by have := (List.getElem?_eq_some_iff.mp hd).1; simpa [zs] using this
        simp only [zs, List.getElem?_map, List.getElem?_range hi, Option.map_some, Option.some.injEq] at hd
        subst hd
        rw [Int.mul_one]; exact .int _ _) (fun _ _ _ _ _ _ => trivial)
  · have : (s.heap.push { cls := .type "range_iterator", data := .fields #[rawInt a, rawInt ((b - a).toNat : Int), rawInt 1] }).get? s.heap.objs.size = some { cls := .type "range_iterator", data := .fields #[rawInt a, rawInt ((b - a).toNat : Int), rawInt 1] } := Heap.get?_push_size _ rfl
    simpa using this
noncomputable def byteInts (l : List UInt8) : List D := l.map fun c => .int (c.toNat : Int)
theorem iter_bytes {target : Expr} {l : List UInt8} : IterIs target (.bytes l) (byteInts l) := .mk fun prog w X A s Q E v hh hX r hQ => by
  cases r with | bytes l t =>
  have hnone : s.heap.get? s.heap.objs.size = none := by
    cases e : s.heap.get? s.heap.objs.size with
    | none => rfl
    | some o => exact absurd (Heap.lt_size e) (Nat.lt_irrefl _)
  refine KBw.pyIter_bytes ?_
  refine hQ (.ref s.heap.objs.size) [s.heap.objs.size] [s.heap.objs.size] (fun X i h => KBw.IsBytesIter h s.heap.objs.size l.toArray t i ∧ True) _ _ (fun A' hA' => ?_)
    ⟨⟨_, Heap.get?_push_size _ rfl, rfl, rfl⟩, trivial⟩ (fun b o e => Heap.get?_push_of_some _ e) (fun b hb => by rw [List.mem_singleton.mp hb]; exact ⟨hnone, _, Heap.get?_push_size _ rfl⟩) (fun b hb => .inl hb)
  exact Run.of_walks (T := "bytes_iterator") (KBw.walks hA' s.heap.objs.size l.toArray t) (by simp [byteInts]) (List.mem_cons_self ..)
    (fun i h st => let ⟨o, ho, hc, _⟩ := st; ⟨o, ho, hc⟩) rfl (fun _ _ _ _ _ _ => trivial) (fun _ _ _ _ _ => trivial) (fun X i d v h hd hP _ => by
      obtain ⟨c, u, hc, rfl⟩ := hP
      have hc' : l[i]? = some c := by simpa using hc
      simp only [byteInts, List.getElem?_map, hc', Option.map_some, Option.some.injEq] at hd
      subst hd; exact .int _ _) (fun _ _ _ _ _ _ => trivial)
structure Src (G : Gd) (n : Nat) (env : Env) (ρ : Loc) (ow : Own) (target : Expr) (e : Expr) (ds : List D) : Prop where
  go : ∀ (X : List Addr) (A : Around) (s : Shared) (Q : Value → Shared → Prop) (E : Value → Shared → Prop), Room n A → Fits G env X ρ ow s →
    (∀ it fp wr St s', (∀ A' : Around, A'.handled = none → Run G.prog G.w A' target it fp wr ds St) → St (wr ++ X) 0 s'.heap → Grow s s' →
      (∀ b ∈ wr, s.heap.get? b = none ∧ ∃ o, s'.heap.get? b = some o) → (∀ b ∈ fp, b ∈ wr ∨ (b ∉ X ∧ ∃ o, s'.heap.get? b = some o ∧ look o)) → Q it s') →
    wpAny (model G.prog G.w) A (eval e env) (fun x s₁ => wpAny (model G.prog G.w) A (pyIter x) Q E s₁) E s
section
variable {G : Gd} {n : Nat} {env : Env} {X : List Addr} {ρ : Loc} {ow : Own}
theorem src_of {target e : Expr} {d : D} {ds : List D} (h : Ev G n env ρ ow e d) (hi : IterIs target d ds) : Src G n env ρ ow target e ds := .mk fun X A s Q E R F hQ => by
  refine wpAny_mono (h.go X A s E R F) (fun v s₁ q => ?_) fun _ _ x => x
  refine hi.go _ _ X A s₁ Q E v R.hd (F.keeps q.2).live q.1 fun it fp wr St h' tk hR h0 hk hw hf => ?_
  have g1 : Grow s₁ { s₁ with heap := h', toks := tk } := .of hk
  refine hQ it fp wr St _ hR h0 (q.2.trans g1) (fun b hb => ⟨?_, (hw b hb).2⟩) (fun b hb => (hf b hb).imp id fun ⟨x, o, e, l⟩ => ⟨x, o, hk b o e, l⟩)
  cases e : s.heap.get? b with
  | none => rfl
  | some o => have := (hw b hb).1; rw [q.2.heap b o e] at this; cases this
structure Asg (G : Gd) (n : Nat) (env : Env) (ow : Own) (T : Addr → Prop) (target : Expr) (d : D) (ρ ρ' : Loc) : Prop where
  go : ∀ (X : List Addr) (A : Around) (s : Shared) (Q : Unit → Shared → Prop) (E : Value → Shared → Prop) (v : Value), Room n A → Fits G env X ρ ow s → Rep X s.heap v d →
    (∀ s', (∃ h tk, s' = { s with heap := h, toks := tk }) → (∀ b o, ¬ T b → s.heap.get? b = some o → s'.heap.get? b = some o) → Fits G env X ρ' ow s' → Q () s') → wpAny (model G.prog G.w) A (assign target env v) Q E s
theorem asg_name {x : Str} {px : Pos} {d : D} {T : Addr → Prop} (hk : storable env x = true) (hT : T env.locals) (hT' : env.kindOf x = some .cell → ∀ c, env.cells.lookup x = some c → T c) : Asg G n env ow T (.Name x px) d ρ ((x, d) :: ρ) := .mk fun X A s Q E v R F r hQ => by
  rcases storable_ok hk with hl | ⟨hc, c, hcl⟩
  · obtain ⟨m, hn⟩ := F.ns
    refine wpAny_assign_Name (wpAny_storeName_local hl hn (fun h' hn' hs' => ?_) (by rw [F.fn]; rfl))
    exact hQ _ ⟨h', _, rfl⟩ (fun b o hb e => (hs'.2 b fun q => hb (q ▸ hT)).trans e) (F.setLocal hl r hn hn' hs')
  · obtain ⟨v₀, hv⟩ := F.cel x c hcl
    refine wpAny_assign_Name (wpAny_storeName_cell F.fn hc hcl hv fun h' hv' hs' => ?_)
    exact hQ _ ⟨h', s.toks, rfl⟩ (fun b o hb e => (hs'.2 b fun q => hb (q ▸ hT' hc c hcl)).trans e) (F.setCell (t := s.toks) hc hcl r hv hv' hs')
end
end
section
noncomputable def OSub (ow' ow : Own) : Prop := ∀ p ∈ ow', p ∈ ow
theorem OSub.nil {ow : Own} : OSub [] ow := fun _ h => nomatch h
theorem OSub.refl (ow : Own) : OSub ow ow := fun _ h => h
theorem Sub.cons' {n : Str} {d d' : D} {ρ' ρ : Loc} (h : ρ.lookup n = some d') (e : d' = d) (r : Sub ρ' ρ) : Sub ((n, d) :: ρ') ρ := .cons (e ▸ h) r
theorem mut_sub {env : Env} {ow' ow : Own} (h : OSub ow' ow) {b : Addr} (x : Mut env ow' b) : Mut env ow b := by
  rcases x with x | x | x
  · exact .inl x
  · exact .inr (.inl x)
  · obtain ⟨p, hp, rfl⟩ := List.mem_map.mp x
    exact .inr (.inr (List.mem_map.mpr ⟨p, h p hp, rfl⟩))
theorem mut_same {env : Env} {ow' ow : Own} (h : ow'.map (·.1) = ow.map (·.1)) {b : Addr} (x : Mut env ow' b) : Mut env ow b := by
  unfold Mut at x ⊢; rw [h] at x; exact x
section
variable {G : Gd} {env : Env} {X : List Addr} {ρ : Loc} {ow : Own} {s : Shared}
theorem Fits.less (F : Fits G env X ρ ow s) {ρ' : Loc} {ow' : Own} (k : Sub ρ' ρ) (h : OSub ow' ow) (hn : (ow'.map (·.1)).Nodup) : Fits G env X ρ' ow' s :=
  ⟨F.base, F.fn, F.gl, F.bl, F.ns, fun n d e => F.vars n d (k n d e), fun p hp => F.owns p (h p hp), hn, F.live, fun b o e q => F.apart b o e (mut_sub h q), F.inj, F.cel, fun p hp => F.sep p (h p hp)⟩
theorem VarIs.subX {X' : List Addr} {h : Heap} {n : Str} {d : D} (x : VarIs X env h n d) (k : ∀ a ∈ X', a ∈ X) : VarIs X' env h n d := by
  cases x with
  | loc m v a b c r => exact .loc m v a b c (r.sub k)
  | cell c v a b e r => exact .cell c v a b e (r.sub k)
theorem Fits.subX (F : Fits G env X ρ ow s) {X' : List Addr} (k : ∀ a ∈ X', a ∈ X) (h : ∀ p ∈ ow, p.1 ∈ X') : Fits G env X' ρ ow s :=
  ⟨F.base, F.fn, F.gl, F.bl, F.ns, fun n d e => (F.vars n d e).subX k, fun p hp => ⟨(F.owns p hp).1.subX k, h p hp⟩, F.nd, fun a ha => F.live a (k a ha), F.apart, F.inj, F.cel, F.sep⟩
theorem Fits.mut_there (F : Fits G env X ρ ow s) {b : Addr} (hb : Mut env ow b) : ∃ o, s.heap.get? b = some o := by
  rcases hb with q | ⟨n, q⟩ | q
  · obtain ⟨m, o, _, _, h, _⟩ := F.ns; exact ⟨o, q ▸ h⟩
  · obtain ⟨v, o, h, _⟩ := F.cel n b q; exact ⟨o, h⟩
  · obtain ⟨p, hp, rfl⟩ := List.mem_map.mp q; exact own_there (F.owns p hp).1
theorem Fits.new_away (F : Fits G env X ρ ow s) {b : Addr} (hb : s.heap.get? b = none) : ¬ Mut env ow b ∧ G.H₀.get? b = none := by
  refine ⟨fun q => ?_, ?_⟩
  · obtain ⟨o, e⟩ := F.mut_there q; rw [hb] at e; cases e
  · cases e : G.H₀.get? b with
    | none => rfl
    | some o => have := F.base b o e; rw [hb] at this; cases this
theorem Fits.look_away (F : Fits G env X ρ ow s) {b : Addr} {o : Obj} (hb : b ∉ X) (e : s.heap.get? b = some o) (l : look o) : ¬ Mut env ow b := fun q => by
  rcases q with q | ⟨n, q⟩ | q
  · obtain ⟨m, hm⟩ := F.ns; exact ns_look hm o (q ▸ e) l
  · obtain ⟨v, hv⟩ := F.cel n b q; exact cell_look hv o e l
  · obtain ⟨p, hp, rfl⟩ := List.mem_map.mp q; exact hb (F.owns p hp).2
theorem Turn.sameX {s' : Shared} (t : Turn env ow s s') (F : Fits G env X ρ ow s) : Same X s.heap s'.heap := fun b o hb l e => t.heap b o (F.look_away hb e l) e
theorem Fits.wr (F : Fits G env X ρ ow s) {wr : List Addr} {h' : Heap} {tk : Nat} (hk : ∀ b o, b ∉ wr → s.heap.get? b = some o → h'.get? b = some o) (hX : ∀ b ∈ wr, b ∈ X) {X' : List Addr} (k : ∀ a ∈ X', a ∈ X) (ho : ∀ p ∈ ow, p.1 ∈ X') (hl : ∀ b ∈ wr, b ∈ X' → ∃ o, h'.get? b = some o)
    (aw : ∀ b ∈ wr, ¬ Mut env ow b ∧ G.H₀.get? b = none) : Fits G env X' ρ ow { s with heap := h', toks := tk } := by
  have hsame : Same X s.heap h' := fun b o hb _ e => hk b o (fun q => hb (hX b q)) e
  have km : ∀ b o, Mut env ow b → s.heap.get? b = some o → h'.get? b = some o := fun b o q e => hk b o (fun z => (aw b z).1 q) e
  have kv : ∀ n d, ρ.lookup n = some d → VarIs X' env h' n d := fun n d e => VarIs.subX (X := X) (by
    cases F.vars n d e with
    | loc m v a b c r => exact .loc m v a (b.at' fun o e => km _ o (.inl rfl) e) c (r.mono hsame)
    | cell c v a b e' r => exact .cell c v a b (let ⟨o, ho, hd⟩ := e'; ⟨o, km c o (.inr (.inl ⟨n, b⟩)) ho, hd⟩) (r.mono hsame)) k
  refine ⟨fun b o e => hk b o (fun z => by rw [(aw b z).2] at e; cases e) (F.base b o e), F.fn, F.gl, F.bl, ?_, kv, fun p hp => ⟨OOIs.subX ?_ k, ho p hp⟩, F.nd, fun a ha => ?_, F.apart, F.inj, fun y c e => ?_, F.sep⟩
  · obtain ⟨m, hm⟩ := F.ns; exact ⟨m, hm.at' fun o e => km _ o (.inl rfl) e⟩
  · exact (F.owns p hp).1.at (fun o e => km _ o (.inr (.inr (List.mem_map.mpr ⟨p, hp, rfl⟩))) e) hsame
  · by_cases q : a ∈ wr
    · exact hl a q ha
    · obtain ⟨o, e⟩ := F.live a (k a ha); exact ⟨o, hk a o q e⟩
  · obtain ⟨v, o, ho, hd⟩ := F.cel y c e; exact ⟨v, o, km c o (.inr (.inl ⟨y, e⟩)) ho, hd⟩
theorem Fits.more (F : Fits G env X ρ ow s) {wr : List Addr} {s' : Shared} (g : Grow s s') (hw : ∀ b ∈ wr, s.heap.get? b = none ∧ ∃ o, s'.heap.get? b = some o) : Fits G env (wr ++ X) ρ ow s' := by
  have hrep : ∀ {v : Value} {d : D}, Rep X s.heap v d → Rep (wr ++ X) s'.heap v d := fun r => by
    have : ∀ (l : List Addr), (∀ b ∈ l, s.heap.get? b = none) → Rep (l ++ X) s.heap _ _ := fun l => by
      induction l with
      | nil => intro _; exact r
      | cons a l ih => intro h; exact (ih fun b hb => h b (List.mem_cons_of_mem _ hb)).new (h a (List.mem_cons_self ..))
    exact (this wr fun b hb => (hw b hb).1).keeps g.heap
  have F' := F.keeps g
  refine ⟨F'.base, F'.fn, F'.gl, F'.bl, F'.ns, fun n d e => ?_, fun p hp => ⟨?_, List.mem_append_right _ (F.owns p hp).2⟩, F'.nd, fun a ha => ?_, F'.apart, F'.inj, F'.cel, F'.sep⟩
  · cases F.vars n d e with
    | loc m v a b c r => exact .loc m v a (b.keeps g.heap) c (hrep r)
    | cell c v a b e' r => exact .cell c v a b (e'.keeps g.heap) (hrep r)
  · have : ∀ (l : List Addr), (∀ b ∈ l, s.heap.get? b = none) → OOIs (l ++ X) s.heap p.1 p.2 := fun l => by
      induction l with
      | nil => intro _; exact (F.owns p hp).1
      | cons a l ih => intro h; exact (ih fun b hb => h b (List.mem_cons_of_mem _ hb)).new (h a (List.mem_cons_self ..))
    exact (this wr fun b hb => (hw b hb).1).keeps g.heap
  · rcases List.mem_append.mp ha with q | q
    · exact (hw a q).2
    · exact F'.live a q
end
section
variable {G : Gd} {n : Nat} {env : Env} {ρ : Loc} {ow : Own} {bs : List (List Stmt)} {o : Out}
theorem ex_sub {ρ' : Loc} (k : Sub ρ' ρ) (h : Ex G n env ρ' ow bs o) : Ex G n env ρ ow bs o := .mk fun X A s E R B F => h.go X A s E R B (F.sub k)
noncomputable abbrev WhI {σ : Type} (G : Gd) (env : Env) (base : List Addr) (ρof : σ → Loc) (owof : σ → Own) (I : σ → Prop) (μ : σ → Nat) (ow : Own) (s : Shared) (k : Nat) (s' : Shared) : Prop :=
  ∃ b X', I b ∧ μ b = k ∧ (∀ a ∈ base, a ∈ X') ∧ Fits G env X' (ρof b) (owof b) s' ∧ Turn env ow s s'
theorem ex_while {σ : Type} {t : Expr} {body rest : List Stmt} {pos : Pos} (ρof : σ → Loc) (owof : σ → Own) (I : σ → Prop) (μ : σ → Nat) (c : σ → Bool) (b₀ : σ) (h0 : I b₀) (hρ : Sub (ρof b₀) ρ) (how : OSub (owof b₀) ow) (ha : ∀ b, (owof b).map (·.1) = ow.map (·.1))
    (ht : ∀ b, I b → Tst G n env (ρof b) (owof b) t (c b))
    (hb : ∀ b, I b → c b = true → Ex G n env (ρof b) (owof b) [body] ⟨o.base, fun r w => ∃ b', I b' ∧ μ b' < μ b ∧ Sub (ρof b') r ∧ OSub (owof b') w, fun r w => ∃ ρ' ow', Sub ρ' r ∧ OSub ow' w ∧ ow'.map (·.1) = ow.map (·.1) ∧ Ex G n env ρ' ow' (rest :: bs) o,
      fun r w => ∃ b', I b' ∧ μ b' < μ b ∧ Sub (ρof b') r ∧ OSub (owof b') w, o.ret⟩)
    (he : ∀ b, I b → c b = false → Ex G n env (ρof b) (owof b) (rest :: bs) o) : Ex G n env ρ ow ((.While t body [] pos :: rest) :: bs) o := .mk <| fun X A s E R B F => by
  have hnd : ∀ b, ((owof b).map (·.1)).Nodup := fun b => by rw [ha b]; exact F.nd
  refine wpAny_execs_cons (wpAny_While (codeAny_whileLoop (WhI G env o.base ρof owof I μ ow s) ?_ (μ b₀) ⟨b₀, X, h0, rfl, B, F.less hρ how (hnd _), (Grow.refl s).turn⟩))
  rintro k s₁ ⟨b, X', hI, rfl, B', F', t'⟩
  refine wpAny_mono ((ht b hI).go X' A s₁ _ R F') (fun c' s₂ q => ?_) fun _ _ y => y
  obtain ⟨rfl, g⟩ := q
  have F₂ := F'.keeps g
  have t₂ := t'.trans (g.turn (env := env) (ow := ow))
  cases hc : c b with
  | true =>
    simp only [if_true]
    refine wpAny_mono ((hb b hI hc).go X' A s₂ _ R B' F₂) (fun f s₃ q => ?_) fun _ _ y => y
    obtain ⟨t₃, q⟩ := q
    have t₃' : Turn env ow s s₃ := t₂.trans (t₃.more fun b' h => .inl (mut_same (ha b) h))
    cases f with
    | next => obtain ⟨X₃, r, w', hX, ⟨b', hI', hμ, hs, hw⟩, F₃⟩ := q; exact ⟨μ b', hμ, b', X₃, hI', rfl, hX, F₃.less hs hw (hnd _), t₃'⟩
    | cont => obtain ⟨X₃, r, w', hX, ⟨b', hI', hμ, hs, hw⟩, F₃⟩ := q; exact ⟨μ b', hμ, b', X₃, hI', rfl, hX, F₃.less hs hw (hnd _), t₃'⟩
    | brk =>
      obtain ⟨X₃, r, w', hX, ⟨ρ', ow', hs, hw, hm, hx⟩, F₃⟩ := q
      exact hx.from R hX (F₃.less hs hw (by rw [hm]; exact F.nd)) t₃' fun b' h => .inl (mut_same hm h)
    | ret v => exact seqP_other (by simp) ⟨t₃', q⟩
  | false =>
    simp only [Bool.false_eq_true, if_false]
    exact wpAny_execs_nil ((he b hI hc).from R B' F₂ t₂ fun b' h => .inl (mut_same (ha b) h))
noncomputable abbrev ForI (G : Gd) (env : Env) (W : List Addr) (ρof : Nat → Loc) (owof : Nat → Own) (St : List Addr → Nat → Heap → Prop) (ow : Own) (s : Shared) (N k : Nat) (s' : Shared) : Prop :=
  ∃ i, i ≤ N ∧ k = N - i ∧ Fits G env W (ρof i) (owof i) s' ∧ St W i s'.heap ∧ Turn env ow s s'
theorem ex_for {target e : Expr} {body rest : List Stmt} {pos : Pos} {ds : List D} (hs : Src G n env ρ ow target e ds) (ρof : Nat → Loc) (owof : Nat → Own) (h0 : Sub (ρof 0) ρ) (how : OSub (owof 0) ow) (ha : ∀ i, (owof i).map (·.1) = ow.map (·.1))
    (turn : ∀ i d, ds[i]? = some d → ∃ ρ', Asg G n env (owof i) (Mut env ow) target d (ρof i) ρ' ∧ ∀ Y, Ex G n env ρ' (owof i) [body] ⟨Y, fun r w => Sub (ρof (i + 1)) r ∧ OSub (owof (i + 1)) w, fun r w => ∃ ρ' ow', Sub ρ' r ∧ OSub ow' w ∧ ow'.map (·.1) = ow.map (·.1) ∧ Ex G n env ρ' ow' (rest :: bs) o,
      fun r w => Sub (ρof (i + 1)) r ∧ OSub (owof (i + 1)) w, o.ret⟩)
    (he : Ex G n env (ρof ds.length) (owof ds.length) (rest :: bs) o) (hfold : ∀ x, foldedSetIterable e env x = pure x := by intro _; rfl) : Ex G n env ρ ow ((.For target e body [] pos :: rest) :: bs) o := .mk <| fun X A s E R B F => by
  have hnd : ∀ b, ((owof b).map (·.1)).Nodup := fun b => by rw [ha b]; exact F.nd
  refine wpAny_execs_cons (wpAny_For (hs.go X A s _ E R F fun it fp wr St s₁ hR h0' g hw hf => ?_) hfold)
  have R' := hR A R.hd
  have F₁ : Fits G env (wr ++ X) (ρof 0) (owof 0) s₁ := (F.more g hw).less h0 how (hnd 0)
  have aw : ∀ b ∈ wr, ¬ Mut env ow b ∧ G.H₀.get? b = none := fun b hb => F.new_away (hw b hb).1
  have afp : ∀ b ∈ fp, ¬ Mut env ow b := fun b hb => by
    rcases hf b hb with q | ⟨q, ob, eo, l⟩
    · exact (aw b q).1
    · exact (F.keeps g).look_away q eo l
  have hwX : ∀ b ∈ wr, b ∈ wr ++ X := fun b hb => List.mem_append_left _ hb
  have hBw : ∀ a ∈ o.base, a ∈ wr ++ X := fun a h => List.mem_append_right _ (B a h)
  have hown : ∀ i, ∀ p ∈ owof i, p.1 ∈ wr ++ X := fun i p hp => by
    have : p.1 ∈ ow.map (·.1) := by rw [← ha i]; exact List.mem_map.mpr ⟨p, hp, rfl⟩
    obtain ⟨p', hp', e'⟩ := List.mem_map.mp this
    exact List.mem_append_right _ (by have := (F.owns p' hp').2; rw [e'] at this; exact this)
  have wrL : ∀ {s₀ : Shared}, Live (wr ++ X) s₀.heap → ∀ b ∈ wr, ∃ o, s₀.heap.get? b = some o := fun h b hb => h b (hwX b hb)
  have up : ∀ {s₀ : Shared} {h' : Heap} {tk : Nat}, Turn env ow s s₀ → (∀ b o, b ∉ wr → s₀.heap.get? b = some o → h'.get? b = some o) → Turn env ow s { s₀ with heap := h', toks := tk } := fun {s₀ h' tk} t hk => by
    obtain ⟨⟨h, t', rfl⟩, k⟩ := t
    exact ⟨⟨h', tk, rfl⟩, fun b o p e => hk b o (fun q => by rw [(hw b q).1] at e; cases e) (k b o p e)⟩
  have stay : ∀ {i : Nat} {ow' : Own} {s₀ s₀' : Shared} (m : ∀ b, Mut env ow' b → Mut env ow b) (F₀ : Fits G env (wr ++ X) (ρof i) (owof i) s₀) (t : Turn env ow s₀ s₀') (i' : Nat), St (wr ++ X) i' s₀.heap → St (wr ++ X) i' s₀'.heap := fun m F₀ t i' st =>
    R'.frame _ _ _ _ st (fun b hb o e => t.heap b o (afp b hb) e) (fun b o hb l e => t.heap b o (fun q => F₀.look_away hb e l (mut_same (ha _).symm q)) e)
  refine codeAny_forLoop_any (ForI G env (wr ++ X) ρof owof St ow s ds.length) ?_ ds.length ⟨0, Nat.zero_le _, rfl, F₁, h0', g.turn⟩
  rintro k s₂ ⟨i, hi, rfl, F₂, st, t₂⟩
  rcases Nat.lt_or_ge i ds.length with hlt | hge
  · obtain ⟨d, hd⟩ : ∃ d, ds[i]? = some d := ⟨ds[i], List.getElem?_eq_getElem hlt⟩
    obtain ⟨ρ', hasg, hbody⟩ := turn i d hd
    generalize hE' : notedBy (model G.prog G.w) A env _ = E'
    refine wpAny_mono (R'.item (wr ++ X) i d s₂ (fun v s₃ => wpAny (model G.prog G.w) A (assign target env v) (fun _ s₂' => wpAny (model G.prog G.w) A (execs body env) (fun f s₃ => match f with
            | .next | .cont => ∃ m, m < ds.length - i ∧ ForI G env (wr ++ X) ρof owof St ow s ds.length m s₃
            | .brk => seqP (model G.prog G.w) A env E (rest :: bs) (fun f s₂ => Turn env ow s s₂ ∧ OutIs G env o f s₂) .next s₃
            | .ret v => Turn env ow s s₃ ∧ OutIs G env o (.ret v) s₃) E' s₂') E' s₃) _ hwX hd st F₂.live fun v h' tk hv st' hk hl => ?_) (fun r s₃ q => ?_) fun _ _ y => y
    · have F₃ : Fits G env (wr ++ X) (ρof i) (owof i) { s₂ with heap := h', toks := tk } := F₂.wr hk hwX (fun _ q => q) (hown _) (fun b hb _ => hl b hb) fun b hb => ⟨fun q => (aw b hb).1 (mut_same (ha i) q), (aw b hb).2⟩
      have t₃ := up (tk := tk) t₂ hk
      refine hasg.go _ A _ _ _ v R F₃ hv fun s₄ e₄ k₄ F₄ => ?_
      have t₄ : Turn env ow { s₂ with heap := h', toks := tk } s₄ := ⟨e₄, k₄⟩
      have st₄ := stay (fun b q => q) F₃ t₄ _ st'
      refine wpAny_mono ((hbody (wr ++ X)).go _ A s₄ _ R (fun _ q => q) F₄) (fun f s₅ q => ?_) fun _ _ y => y
      obtain ⟨t₅, q⟩ := q
      have t₅' : Turn env ow s₄ s₅ := t₅.more fun b h => .inl (mut_same (ha i) h)
      have st₅ : St (wr ++ X) (i + 1) s₅.heap := R'.frame _ _ _ _ st₄ (fun b hb o e => t₅'.heap b o (afp b hb) e) (t₅.sameX F₄)
      have tt : Turn env ow s s₅ := (t₃.trans t₄).trans t₅'
      cases f with
      | next => obtain ⟨X₃, r, w', hX, ⟨hs, hw'⟩, F₅⟩ := q; exact ⟨ds.length - (i + 1), by omega, i + 1, hlt, rfl, (F₅.less hs hw' (hnd _)).subX hX (hown _), st₅, tt⟩
      | cont => obtain ⟨X₃, r, w', hX, ⟨hs, hw'⟩, F₅⟩ := q; exact ⟨ds.length - (i + 1), by omega, i + 1, hlt, rfl, (F₅.less hs hw' (hnd _)).subX hX (hown _), st₅, tt⟩
      | brk =>
        obtain ⟨X₃, r, w', hX, ⟨ρ', ow', hs, hw', hm, hx⟩, F₅⟩ := q
        exact hx.from R (fun a h => hX a (hBw a h)) (F₅.less hs hw' (by rw [hm]; exact F.nd)) tt fun b' h => .inl (mut_same hm h)
      | ret v => obtain ⟨d', X', ρ', ow', hB', rd, hd', F'⟩ := q; exact ⟨tt, d', X', ρ', ow', fun a ha => hB' a (hBw a ha), rd, hd', F'⟩
    · obtain ⟨v, rfl, q⟩ := q
      refine wpAny_mono q (fun _ s₃ q => wpAny_mono q (fun _ s₄ q => wpAny_mono q (fun f s₅ q => ?_) fun _ _ y => y) fun _ _ y => y) fun _ _ y => y
      cases f with
      | next => exact q
      | cont => exact q
      | brk => exact q
      | ret v => exact seqP_other (by simp) q
  · have : i = ds.length := Nat.le_antisymm hi hge
    subst this
    refine R'.done _ s₂ _ _ st fun h' tk hk => ?_
    have F₃ : Fits G env X (ρof ds.length) (owof ds.length) { s₂ with heap := h', toks := tk } := F₂.wr hk hwX (fun a q => List.mem_append_right _ q) (fun p hp => by
      have : p.1 ∈ ow.map (·.1) := by rw [← ha ds.length]; exact List.mem_map.mpr ⟨p, hp, rfl⟩
      obtain ⟨p', hp', e'⟩ := List.mem_map.mp this
      have := (F.owns p' hp').2; rw [e'] at this; exact this) (fun b hb hbX => by
        obtain ⟨o, e⟩ := F.live b hbX; rw [(hw b hb).1] at e; cases e) fun b hb => ⟨fun q => (aw b hb).1 (mut_same (ha _) q), (aw b hb).2⟩
    exact wpAny_execs_nil (he.from R B F₃ (up (tk := tk) t₂ hk) fun b' h => .inl (mut_same (ha _) h))
end
end
section
inductive OSet (a : Addr) (old new : OO) : Own → Own → Prop
  | head (r : Own) : OSet a old new ((a, old) :: r) ((a, new) :: r)
  | tail (p : Addr × OO) {r r' : Own} : OSet a old new r r' → OSet a old new (p :: r) (p :: r')
theorem OSet.mem {a : Addr} {old new : OO} {ow ow' : Own} (x : OSet a old new ow ow') : (a, old) ∈ ow := by
  induction x with
  | head r => exact List.mem_cons_self ..
  | tail p _ ih => exact List.mem_cons_of_mem _ ih
theorem OSet.keys {a : Addr} {old new : OO} {ow ow' : Own} (x : OSet a old new ow ow') : ow'.map (·.1) = ow.map (·.1) := by
  induction x with
  | head r => rfl
  | tail p _ ih => simp [ih]
section
variable {G : Gd} {env : Env} {X : List Addr} {ρ : Loc} {ow : Own} {s : Shared}
theorem Fits.putOwn (F : Fits G env X ρ ow s) {ow' : Own} {h' : Heap} {tk : Nat} (hks : ow'.map (·.1) = ow.map (·.1)) (hk : ∀ b o, b ∉ ow.map (·.1) → s.heap.get? b = some o → h'.get? b = some o) (hn : ∀ p ∈ ow', OOIs X h' p.1 p.2) : Fits G env X ρ ow' { s with heap := h', toks := tk } := by
  have inX : ∀ b, b ∈ ow.map (·.1) → b ∈ X := fun b hb => by obtain ⟨p, hp, rfl⟩ := List.mem_map.mp hb; exact (F.owns p hp).2
  have back : ∀ p ∈ ow', ∃ q ∈ ow, q.1 = p.1 := fun p hp => by
    have : p.1 ∈ ow.map (·.1) := by rw [← hks]; exact List.mem_map.mpr ⟨p, hp, rfl⟩
    exact List.mem_map.mp this
  have hsame : Same X s.heap h' := fun b o hb _ e => hk b o (fun q => hb (inX b q)) e
  have nl : env.locals ∉ ow.map (·.1) := fun q => by obtain ⟨p, hp, e⟩ := List.mem_map.mp q; exact (F.sep p hp).1 e
  have nc : ∀ n c, env.cells.lookup n = some c → c ∉ ow.map (·.1) := fun n c hc q => by obtain ⟨p, hp, e⟩ := List.mem_map.mp q; exact (F.sep p hp).2 n c hc e
  refine ⟨fun b o e => hk b o (fun q => F.apart b o e (.inr (.inr q))) (F.base b o e), F.fn, F.gl, F.bl, ?_, fun n d e => ?_, fun p hp => ⟨hn p hp, ?_⟩, by rw [hks]; exact F.nd, fun b hb => ?_, fun b o e q => F.apart b o e (mut_same hks q), F.inj, fun y c e => ?_, fun p hp => ?_⟩
  · obtain ⟨m, hm'⟩ := F.ns; exact ⟨m, hm'.at' fun o e => hk _ o nl e⟩
  · cases F.vars n d e with
    | loc m v a b c r => exact .loc m v a (b.at' fun o e => hk _ o nl e) c (r.mono hsame)
    | cell c v a b e' r => exact .cell c v a b (let ⟨o, ho, hd⟩ := e'; ⟨o, hk c o (nc n c b) ho, hd⟩) (r.mono hsame)
  · obtain ⟨q, hq, e⟩ := back p hp; rw [← e]; exact (F.owns q hq).2
  · by_cases q : b ∈ ow.map (·.1)
    · rw [← hks] at q
      obtain ⟨p, hp, rfl⟩ := List.mem_map.mp q
      exact own_there (hn p hp)
    · obtain ⟨o, e⟩ := F.live b hb; exact ⟨o, hk b o q e⟩
  · obtain ⟨v, o, ho, hd⟩ := F.cel y c e; exact ⟨v, o, hk c o (nc y c e) ho, hd⟩
  · obtain ⟨q, hq, e⟩ := back p hp; rw [← e]; exact F.sep q hq
theorem OSet.rest {a : Addr} {old new : OO} {ow ow' : Own} (x : OSet a old new ow ow') (hnd : (ow.map (·.1)).Nodup) {p : Addr × OO} (h : p ∈ ow') : p = (a, new) ∨ (p ∈ ow ∧ p.1 ≠ a) := by
  induction x with
  | head r =>
    simp only [List.map_cons, List.nodup_cons] at hnd
    rcases List.mem_cons.mp h with h | h
    · exact .inl h
    · exact .inr ⟨List.mem_cons_of_mem _ h, fun q => hnd.1 (List.mem_map.mpr ⟨p, h, q⟩)⟩
  | tail q y ih =>
    simp only [List.map_cons, List.nodup_cons] at hnd
    rcases List.mem_cons.mp h with h | h
    · subst h; exact .inr ⟨List.mem_cons_self .., fun z => hnd.1 (List.mem_map.mpr ⟨_, y.mem, z.symm⟩)⟩
    · exact (ih hnd.2 h).imp id fun z => ⟨List.mem_cons_of_mem _ z.1, z.2⟩
theorem Fits.setOwn (F : Fits G env X ρ ow s) {a : Addr} {old new : OO} {ow' : Own} {h' : Heap} {tk : Nat} (x : OSet a old new ow ow') (hs : Heap.SameBut a s.heap h') (hn : OOIs X h' a new) : Fits G env X ρ ow' { s with heap := h', toks := tk } := by
  have haX := (F.owns _ x.mem).2
  have hsame : Same X s.heap h' := .of_but hs (.inl haX)
  refine F.putOwn x.keys (fun b o hb e => (hs.2 b fun q => hb (q ▸ List.mem_map.mpr ⟨_, x.mem, rfl⟩)).trans e) fun p hp => ?_
  rcases x.rest F.nd hp with rfl | ⟨h1, h2⟩
  · exact hn
  · exact (F.owns p h1).1.at (fun o e => (hs.2 _ h2).trans e) hsame
theorem Fits.newOwn (F : Fits G env X ρ ow s) {a : Addr} {new : OO} {h' : Heap} {tk : Nat} (ha : s.heap.get? a = none) (hk : ∀ b o, s.heap.get? b = some o → h'.get? b = some o) (hn : OOIs (a :: X) h' a new) : Fits G env (a :: X) ρ ((a, new) :: ow) { s with heap := h', toks := tk } := by
  have g : Grow s { s with heap := h', toks := tk } := .of hk
  have F' := F.more (wr := [a]) g fun b hb => by rw [List.mem_singleton.mp hb]; exact ⟨ha, own_there hn⟩
  have haway := F.new_away ha
  refine ⟨F'.base, F'.fn, F'.gl, F'.bl, F'.ns, F'.vars, fun p hp => ?_, ?_, F'.live, fun b o e q => ?_, F'.inj, F'.cel, fun p hp => ?_⟩
  · rcases List.mem_cons.mp hp with rfl | hp
    · exact ⟨hn, List.mem_cons_self ..⟩
    · exact F'.owns p hp
  · simp only [List.map_cons, List.nodup_cons]
    exact ⟨fun q => haway.1 (.inr (.inr q)), F.nd⟩
  · rcases q with q | q | q
    · exact F.apart b o e (.inl q)
    · exact F.apart b o e (.inr (.inl q))
    · simp only [List.map_cons, List.mem_cons] at q
      rcases q with q | q
      · rw [q] at e; rw [haway.2] at e; cases e
      · exact F.apart b o e (.inr (.inr q))
  · rcases List.mem_cons.mp hp with rfl | hp
    · exact ⟨fun q => haway.1 (.inl q), fun n c hc q => haway.1 (.inr (.inl ⟨n, by rw [show a = c from q]; exact hc⟩))⟩
    · exact F.sep p hp
theorem Fits.freeze (F : Fits G env X ρ ow s) {a : Addr} {ds : List D} {x : Str} {ow' : Own} (hx : ρ.lookup x = some (own a)) (ha : (a, OO.list ds) ∈ ow) (hw : OSub ow' ow) (hn : a ∉ ow'.map (·.1)) (hnd : (ow'.map (·.1)).Nodup) : Fits G env (X.filter (· != a)) ((x, .list ds) :: ρ) ow' s := by
  have k : ∀ b ∈ X.filter (· != a), b ∈ X := fun b hb => (List.mem_filter.mp hb).1
  have F₁ : Fits G env (X.filter (· != a)) ρ ow' s := (F.less (Sub.refl ρ) hw hnd).subX k fun p hp => List.mem_filter.mpr ⟨(F.owns p (hw p hp)).2, by
    simp only [bne_iff_ne, ne_eq]; exact fun q => hn (List.mem_map.mpr ⟨p, hp, q⟩)⟩
  refine ⟨F₁.base, F₁.fn, F₁.gl, F₁.bl, F₁.ns, fun n d e => ?_, F₁.owns, F₁.nd, F₁.live, F₁.apart, F₁.inj, F₁.cel, F₁.sep⟩
  rw [List.lookup_cons] at e
  cases hb : n == x with
  | false => rw [hb] at e; exact F₁.vars n d e
  | true =>
    rw [hb] at e; cases e
    have : n = x := beq_iff_eq.mp hb
    subst this
    obtain ⟨vs, hl, r⟩ := (F.owns _ ha).1
    have hr : Rep (X.filter (· != a)) s.heap (.ref a) (.list ds) := .list hl (fun q => by simp at q) (r.sub k)
    cases F.vars n _ hx with
    | loc m v h1 h2 h3 h4 => cases h4; exact .loc m _ h1 h2 h3 hr
    | cell c v h1 h2 h3 h4 => cases h4; exact .cell c _ h1 h2 h3 hr
end
section
variable {G : Gd} {n : Nat} {env : Env} {ρ : Loc} {ow : Own} {bs : List (List Stmt)} {o : Out}
theorem ex_newlist {x : Str} {px lp pos : Pos} {rest : List Stmt} (hk : storable env x = true) (hs : swapsWith (.List [] lp) (some (.Name x px)) pos.line env = pure false) (h : ∀ a, a ∉ o.base → Ex G n env ((x, own a) :: ρ) ((a, .list []) :: ow) (rest :: bs) o) :
    Ex G n env ρ ow ((.Assign [.Name x px] (.List [] lp) pos :: rest) :: bs) o := .mk <| fun X A s E R B F => by
  refine wpAny_execs_cons (wpAny_Assign_Name (List_ (show wpAny _ A (spliced (backTo lp (starEach [] env))) _ E s from spliced_nil (wpAny_newObj_type ?_ (show (0:Nat) ≤ sizeLine from Nat.zero_le _)))) hs)
  have hnone : s.heap.get? s.heap.objs.size = none := by
    cases e : s.heap.get? s.heap.objs.size with
    | none => rfl
    | some o => exact absurd (Heap.lt_size e) (Nat.lt_irrefl _)
  have F₁ := F.newOwn (a := s.heap.objs.size) (new := .list []) (h' := s.heap.push { cls := .type "list", dict := none, data := .seq ([] : List Value).toArray }) (tk := s.toks) hnone (fun b o e => Heap.get?_push_of_some _ e) ⟨[], ⟨_, Heap.get?_push_size _ rfl⟩, .nil⟩
  refine store_any hk F₁ (.raw _) fun h' tk F' t' _ => ?_
  refine (h _ fun q => F.live.new (B _ q)).from R (fun a q => List.mem_cons_of_mem _ (B a q)) F' ?_ fun b q => ?_
  · obtain ⟨⟨h₂, t₂, e₂⟩, k⟩ := t'
    refine ⟨⟨_, _, rfl⟩, fun b o p e => k b o (fun q => ?_) (Heap.get?_push_of_some _ e)⟩
    rcases q with q | q | q
    · exact p (.inl q)
    · exact p (.inr (.inl q))
    · simp only [List.map_cons, List.mem_cons] at q
      rcases q with q | q
      · rw [q, hnone] at e; cases e
      · exact p (.inr (.inr q))
  · rcases q with q | q | q
    · exact .inl (.inl q)
    · exact .inl (.inr (.inl q))
    · simp only [List.map_cons, List.mem_cons] at q
      rcases q with q | q
      · exact .inr (q ▸ hnone)
      · exact .inl (.inr (.inr q))
theorem append_own {prog : Program} {w : World} {A : Around} {E : Value → Shared → Prop} {X : List Addr} {s : Shared} {a : Addr} {ds : List D} {d : D} {v : Value} {ow' : Own} {Q : Value → Shared → Prop} (F : Fits G env X ρ ow s) (hx : OSet a (.list ds) (.list (ds ++ [d])) ow ow') (r : Rep X s.heap v d) (hsz : ds.length ≤ sizeLine)
    (h : ∀ h' tk, Fits G env X ρ ow' { s with heap := h', toks := tk } → Turn env ow s { s with heap := h', toks := tk } → (∀ b o, b ≠ a → s.heap.get? b = some o → h'.get? b = some o) → Q .none { s with heap := h', toks := tk }) : wpAny (model prog w) A (call (.builtin "list.append") [.ref a, v]) Q E s := by
  obtain ⟨vs, hl, ra⟩ := (F.owns _ hx.mem).1
  refine wpAny_list_append_plain (items := vs.toArray) hl (fun h' hl' hs' => ?_) (by rw [List.size_toArray, ra.length]; exact hsz)
  have haX := (F.owns _ hx.mem).2
  have hm : Same X s.heap h' := .of_but hs' (.inl haX)
  refine h h' s.toks (F.setOwn hx hs' ⟨vs ++ [v], ?_, (ra.mono hm).append (.cons (r.mono hm) .nil)⟩) (.but hs' (.inr (.inr (List.mem_map.mpr ⟨_, hx.mem, rfl⟩)))) fun b o q e => (hs'.2 b q).trans e
  have e : vs.toArray.push v = (vs ++ [v]).toArray := by simp
  rw [e] at hl'; exact hl'
theorem ex_append {oe e : Expr} {apos cpos pos : Pos} {rest : List Stmt} {a : Addr} {ds : List D} {d : D} {ow' : Own} {pl : Sem Bool} (ho : Ev G n env ρ ow oe (own a)) (hx : OSet a (.list ds) (.list (ds ++ [d])) ow ow') (he : EvAll G n env ρ ow [e] [d]) (hs : noStar [e] = true) (hsz : ds.length ≤ sizeLine)
    (hq : eval (.Call (.Attribute oe "append" apos) [e] [] cpos) env = (do
        let ov ← eval oe env
        standAt apos.atName
        let (f, first) ← holding [ov] (getMethod ov "append" pl)
        callWith cpos f first (backTo cpos (starEach [e] env)) []))
    (hi : interactive env = false) (hsw : swapsWith (.Call (.Attribute oe "append" apos) [e] [] cpos) none pos.line env = pure false)
    (h : Ex G n env ρ ow' (rest :: bs) o) : Ex G n env ρ ow ((.Expr (.Call (.Attribute oe "append" apos) [e] [] cpos) pos :: rest) :: bs) o := .mk <| fun X A s E R B F => by
  refine wpAny_execs_cons (wpAny_Expr_any (MethodCall_ (wpAny_mono (ho.go X A s E R F) (fun v s₁ q => ?_) fun _ _ x => x) hq) hi hsw)
  obtain ⟨q, g⟩ := q
  cases q
  have F₁ := F.keeps g
  obtain ⟨vs, hl, ra⟩ := (F₁.owns _ hx.mem).1
  refine getMethod_builtin hl.isList.typeIs PySem.F.plainAttrs_list slot_list_append (by show builtinType _ = _; rw [builtinType_eq_fast]; kernel_rfl) (fun a e => by cases e; exact hl.noDict) ?_
  refine callWith_method1 (wpAny_mono (he.go cpos X A s₁ E R F₁) (fun vs s₂ q₂ => ?_) fun _ _ x => x) (starEach_cons hs) (backTo_any (noStar_tail hs))
  obtain ⟨q₂, g₂⟩ := q₂
  cases q₂ with | cons r r' => cases r'; exact append_own (F₁.keeps g₂) hx r hsz fun h' tk F' t' _ => h.from R B F' ((g.trans g₂).turn.trans t') fun b q => .inl (mut_same hx.keys q)
theorem ex_assert {t : Expr} {m : Option Expr} {pos : Pos} {rest : List Stmt} {c : Bool} (ht : Tst G n env ρ ow t c) (hc : c = true) (h : Ex G n env ρ ow (rest :: bs) o) : Ex G n env ρ ow ((.Assert t m pos :: rest) :: bs) o := .mk <| fun X A s E R B F =>
  wpAny_execs_cons (wpAny_Assert_holds (wpAny_mono (ht.go X A s E R F) (fun c' s₁ q => ⟨q.1.trans hc, h.from' R B (F.keeps q.2) q.2.turn⟩) fun _ _ x => x))
structure IncIs (op : Operator) (d₁ d₂ d : D) : Prop where
  go : ∀ (prog : Program) (w : World) (X : List Addr) (A : Around) (s : Shared) (E : Value → Shared → Prop) v₁ v₂, A.units < cLine → Live X s.heap → Rep X s.heap v₁ d₁ → Rep X s.heap v₂ d₂ →
  wpAny (model prog w) A (inplaceOp op v₁ v₂) (fun v s' => Rep X s'.heap v d ∧ Grow s s') E s
theorem inc_add {a b : Int} : IncIs .Add (.int a) (.int b) (.int (a + b)) := .mk <| fun prog w X A s E v₁ v₂ _ _ r₁ r₂ => by
  cases r₁; cases r₂; exact iadd_int ⟨.int _ _, .toks _ _⟩
theorem inc_sub {a b : Int} : IncIs .Sub (.int a) (.int b) (.int (a - b)) := .mk <| fun prog w X A s E v₁ v₂ _ _ r₁ r₂ => by
  cases r₁; cases r₂; exact isub_int ⟨.int _ _, .toks _ _⟩
theorem inc_cat {a b : List Nat} (h : a.length + b.length ≤ sizeLine) : IncIs .Add (.str a) (.str b) (.str (a ++ b)) := .mk <| fun prog w X A s E v₁ v₂ _ _ r₁ r₂ => by
  cases r₁; cases r₂
  refine iadd_str (fun t' tk => ⟨?_, .toks _ _⟩) (by simpa [Str.length] using h)
  rw [str_app]; exact .str _ _
theorem load_var {x : Str} {d : D} {X : List Addr} {A : Around} {s : Shared} {E : Value → Shared → Prop} {Q : Value → Shared → Prop} {prog : Program} {w : World} (F : Fits G env X ρ ow s) (h : ρ.lookup x = some d) (hc : (x == ("__classdict__" : Str)) = false) (hQ : ∀ v, Rep X s.heap v d → Q v s) : wpAny (model prog w) A (loadName env x) Q E s := by
  cases F.vars x d h with
  | loc m v hk hn hm hr => exact wpAny_loadName_local F.fn hk hn hm (hQ v hr)
  | cell c v hk hc' hv hr =>
    rcases hk with hk | hk
    · exact wpAny_loadName_cell F.fn hk hc' hv (hQ v hr)
    · exact wpAny_loadName_free F.fn hk hc' hv (hQ v hr) hc
theorem ex_aug {x : Str} {px pos : Pos} {op : Operator} {e : Expr} {rest : List Stmt} {d₁ d₂ d : D} (hk : storable env x = true) (hc : (x == ("__classdict__" : Str)) = false) (hx : ρ.lookup x = some d₁) (he : Ev G n env ρ ow e d₂) (hi : IncIs op d₁ d₂ d) (h : Ex G n env ((x, d) :: ρ) ow (rest :: bs) o) :
    Ex G n env ρ ow ((.AugAssign (.Name x px) op e pos :: rest) :: bs) o := .mk <| fun X A s E R B F => by
  refine wpAny_execs_cons (wpAny_AugAssign_Name (load_var F hx hc fun v₁ r₁ => wpAny_mono (he.go X A s E R F) (fun v₂ s₁ q => ?_) fun _ _ y => y))
  have F₁ := F.keeps q.2
  refine wpAny_mono (hi.go _ _ X A s₁ E v₁ v₂ R.units F₁.live (r₁.keeps q.2.heap) q.1) (fun v s₂ q₂ => ?_) fun _ _ y => y
  exact store_any hk (F₁.keeps q₂.2) q₂.1 fun h' tk F' t' _ => h.from' R B F' ((q.2.trans q₂.2).turn.trans t')
theorem Rep.tup2 {X : List Addr} {h : Heap} {v : Value} {d₁ d₂ : D} (r : Rep X h v (.tup [d₁, d₂])) : ∃ a v₁ v₂, v = .ref a ∧ h.IsTuple a #[v₁, v₂] ∧ Rep X h v₁ d₁ ∧ Rep X h v₂ d₂ := by
  cases r with | tup ht hf ra =>
  cases ra with | cons r₁ ra =>
  cases ra with | cons r₂ ra =>
  cases ra
  obtain ⟨ob, ho, hc, k, q⟩ := ht
  exact ⟨_, _, _, rfl, ⟨ob, ho, hc, k, q⟩, r₁, r₂⟩
structure UnpIs (d d₁ d₂ : D) : Prop where
  go : ∀ (prog : Program) (w : World) (X : List Addr) (A : Around) (s : Shared) (Q : List Value → Shared → Prop) (E : Value → Shared → Prop) v, A.handled = none → Rep X s.heap v d →
    (∀ v₁ v₂ h' tk, (∀ b o, s.heap.get? b = some o → h'.get? b = some o) → Rep X s.heap v₁ d₁ → Rep X s.heap v₂ d₂ → Q [v₁, v₂] { s with heap := h', toks := tk }) → wpAny (model prog w) A (unpackItems v 2 none) Q E s
theorem unp_tup {d₁ d₂ : D} : UnpIs (.tup [d₁, d₂]) d₁ d₂ := .mk fun prog w X A s Q E v hh r hQ => by
  obtain ⟨a, v₁, v₂, rfl, ht, r₁, r₂⟩ := r.tup2
  exact wpAny_unpackItems_tuple (items := #[v₁, v₂]) hh ht fun h' k => hQ v₁ v₂ h' s.toks (fun b o e => k b o (Nat.ne_of_lt (Heap.lt_size e)) e) r₁ r₂
theorem draw_list {prog : Program} {w : World} {A : Around} {E : Value → Shared → Prop} {it t : Addr} {items : Array Value} (hne : t ≠ it) : ∀ (n i : Nat) (s : Shared) (Q : List Value → Shared → Prop), s.heap.IsListIter it t i → s.heap.IsList t items → i + n ≤ items.size →
    (∀ h', h'.IsListIter it t (i + n) → Heap.SameBut it s.heap h' → Q ((items.toList.drop i).take n) { s with heap := h' }) → wpAny (model prog w) A (draw (.ref it) n) Q E s
  | 0, i, s, Q, hit, _, _, hQ => by
    show wpAny _ _ (pure []) Q E s
    exact wpAny_pure (by simpa using hQ s.heap hit (Heap.SameBut.refl ..))
  | n + 1, i, s, Q, hit, ht, hle, hQ => by
    have hlt : i < items.size := by omega
    show wpAny _ _ (pyNext (.ref it) >>= _) Q E s
    refine wpAny_bind (wpAny_pyNext_list_item hit ht (x := items[i]) (by simp [hlt]) fun h₁ hit₁ hs₁ => ?_)
    refine wpAny_bind (wpAny_holding (draw_list hne n (i + 1) _ _ hit₁ (ht.extBut hs₁.extBut hne) (by omega) fun h₂ hit₂ hs₂ => wpAny_pure ?_))
    have hd : items.toList.drop i = items[i] :: items.toList.drop (i + 1) := by simp [List.drop_eq_getElem_cons, hlt]
    have := hQ h₂ (by rw [show i + (n + 1) = i + 1 + n by omega]; exact hit₂) (hs₁.trans hs₂)
    rw [hd, List.take_succ_cons] at this
    exact this
set_option tactic.hygienic true in
theorem unp_list {d₁ d₂ : D} : UnpIs (.list [d₁, d₂]) d₁ d₂ := .mk fun prog w X A s Q E v hh r hQ => by
  cases r with | list hl hf ra =>
  cases ra with | cons r₁ ra =>
  cases ra with | cons r₂ ra =>
  cases ra
  rename_i t v₁ v₂
  have ht : s.heap.IsList t #[v₁, v₂] := hl.isList
  have hlt : t ≠ s.heap.objs.size := by obtain ⟨o, ho, _⟩ := ht; exact Nat.ne_of_lt (Heap.lt_size ho)
  unfold unpackItems
  refine wpAny_bind ?_
  unfold notIterableAtAll
  refine wpAny_bind (wpAny_specialOf ht.typeIs slot_list_iter.lookup ?_)
  refine wpAny_pure ?_
  simp only [Bool.false_eq_true, if_false]
  refine wpAny_bind (wpAny_holding (wpAny_pyIter_list ht ?_))
  refine wpAny_bind (wpAny_holding (draw_list hlt 2 0 _ _ ⟨_, Heap.get?_push_size _ rfl, rfl, rfl⟩ (ht.push _) (by simp) fun h₁ hit₁ hs₁ => ?_))
  rw [if_neg (by simp)]
  have ht₁ : h₁.IsList t #[v₁, v₂] := (ht.push _).extBut hs₁.extBut hlt
  refine wpAny_bind (wpAny_holding (wpAny_pyNext_list_end hh hit₁ ht₁ (by simp) fun h₂ he₂ => ?_))
  simp only [Option.isSome_none, Bool.false_eq_true, if_false]
  exact wpAny_pure (hQ v₁ v₂ h₂ s.toks (fun b o e => he₂ b o (Nat.ne_of_lt (Heap.lt_size e)) (hs₁.extBut b o (Nat.ne_of_lt (Heap.lt_size e)) (Heap.get?_push_of_some _ e))) r₁ r₂)
theorem asg_pair {x y : Str} {px py tp : Pos} {k : Nat} {d d₁ d₂ : D} {T : Addr → Prop} (hx : storable env x = true) (hy : storable env y = true) (hu : UnpIs d d₁ d₂) (hT : T env.locals) (hTx : env.kindOf x = some .cell → ∀ c, env.cells.lookup x = some c → T c) (hTy : env.kindOf y = some .cell → ∀ c, env.cells.lookup y = some c → T c) :
    Asg G n env ow T (.Tuple [.Name x px, .Name y py] k tp) d ρ ((y, d₂) :: (x, d₁) :: ρ) := .mk fun X A s Q E v R F r hQ => by
  rw [arm_assign_Tuple]
  refine wpAny_bind (wpAny_standAt ?_)
  unfold unpack
  show wpAny _ _ (holding [v] (unpackItems v 2 none) >>= fun items => assignInOrder [assign (.Name x px) env, assign (.Name y py) env] items) _ _ _
  refine wpAny_bind (wpAny_holding <| hu.go _ _ X A s _ E v R.hd r fun v₁ v₂ h' tk k r₁ r₂ => ?_)
  have g : Grow s { s with heap := h', toks := tk } := .of k
  refine assignInOrder_cons (wpAny_assign_Name (store_any hx (F.keeps g) (r₁.keeps k) fun h₁ t₁ F₁ T₁ k₁ => ?_))
  have r₂' : Rep X h₁ v₂ d₂ := (r₂.keeps k).mono (T₁.sameX (F.keeps g))
  refine assignInOrder_cons (wpAny_assign_Name (store_any hy F₁ r₂' fun h₂ t₂ F₂ T₂ k₂ => assignInOrder_nil ?_))
  exact hQ _ ⟨h₂, t₂, rfl⟩ (fun b o hb e => k₂ b o (fun q => hb (q ▸ hT)) (fun hc c hcl q => hb (q ▸ hTy hc c hcl)) (k₁ b o (fun q => hb (q ▸ hT)) (fun hc c hcl q => hb (q ▸ hTx hc c hcl)) (k b o e))) F₂
theorem ex_pair {x y : Str} {px py tp pos : Pos} {k : Nat} {e : Expr} {rest : List Stmt} {d d₁ d₂ : D} (hx : storable env x = true) (hy : storable env y = true) (hs : swapsWithSole [.Tuple [.Name x px, .Name y py] k tp] e pos.line env = pure false) (hw : swappedStores [.Tuple [.Name x px, .Name y py] k tp] e env = pure none)
    (he : Ev G n env ρ ow e d) (hu : UnpIs d d₁ d₂) (h : Ex G n env ((y, d₂) :: (x, d₁) :: ρ) ow (rest :: bs) o) : Ex G n env ρ ow ((.Assign [.Tuple [.Name x px, .Name y py] k tp] e pos :: rest) :: bs) o := .mk <| fun X A s E R B F => by
  refine wpAny_execs_cons (Assign_Tuple (wpAny_mono (he.go X A s E R F) (fun v s₁ q => ?_) fun _ _ x => x) hs hw)
  refine (asg_pair (n := n) (T := Mut env ow) hx hy hu (.inl rfl) (fun _ c hc => .inr (.inl ⟨_, hc⟩)) fun _ c hc => .inr (.inl ⟨_, hc⟩)).go X A s₁ _ E v R (F.keeps q.2) q.1 fun s₂ e₂ k₂ F₂ => ?_
  exact h.from' R B F₂ (q.2.turn.trans ⟨e₂, k₂⟩)
theorem ex_pair_sw {x y : Str} {px py tp pos : Pos} {k : Nat} {e : Expr} {rest : List Stmt} {d d₁ d₂ : D} (hx : storable env x = true) (hy : storable env y = true) (hs : swapsWithSole [.Tuple [.Name x px, .Name y py] k tp] e pos.line env = pure false) (hw : swappedStores [.Tuple [.Name x px, .Name y py] k tp] e env = pure (some [x, y]))
    (he : Ev G n env ρ ow e d) (hu : UnpIs d d₁ d₂) (h : Ex G n env ((x, d₁) :: (y, d₂) :: ρ) ow (rest :: bs) o) : Ex G n env ρ ow ((.Assign [.Tuple [.Name x px, .Name y py] k tp] e pos :: rest) :: bs) o := .mk <| fun X A s E R B F => by
  refine wpAny_execs_cons (Assign_Tuple_swapped (wpAny_mono (he.go X A s E R F) (fun v s₁ q => ?_) fun _ _ x => x) hs hw)
  refine hu.go _ _ X A s₁ _ E v R.hd q.1 fun v₁ v₂ h' tk k r₁ r₂ => ?_
  have g : Grow s { s₁ with heap := h', toks := tk } := q.2.trans (.of k)
  show wpAny _ _ (assignInOrder [bindName env y, bindName env x] [v₂, v₁]) _ _ _
  refine assignInOrder_cons (wpAny_bindName (store_any hy (F.keeps g) (r₂.keeps k) fun h₁ t₁ F₁ T₁ k₁ => ?_))
  have r₁' : Rep X h₁ v₁ d₁ := (r₁.keeps k).mono (T₁.sameX (F.keeps g))
  refine assignInOrder_cons (wpAny_bindName (store_any hx F₁ r₁' fun h₂ t₂ F₂ T₂ k₂ => assignInOrder_nil ?_))
  exact h.from' R B F₂ ((g.turn.trans T₁).trans T₂)
theorem ex_freeze (x : Str) {a : Addr} {ds : List D} {ow' : Own} (hx : ρ.lookup x = some (own a)) (ha : (a, OO.list ds) ∈ ow) (hw : OSub ow' ow) (hn : a ∉ ow'.map (·.1)) (hnd : (ow.map (·.1)).Nodup → (ow'.map (·.1)).Nodup) (hb : a ∉ o.base) (h : Ex G n env ((x, .list ds) :: ρ) ow' bs o) : Ex G n env ρ ow bs o := .mk <| fun X A s E R B F => by
  refine h.from R (fun b q => List.mem_filter.mpr ⟨B b q, by simp only [bne_iff_ne, ne_eq]; exact fun z => hb (z ▸ q)⟩) (F.freeze hx ha hw hn (hnd F.nd)) (Grow.refl s).turn fun b q => .inl (mut_sub hw q)
noncomputable def flat : D → Bool
  | .none | .bool _ | .int _ | .str _ | .bytes _ | .raw _ => true
  | _ => false
theorem Rep.flat {X X' : List Addr} {h : Heap} {v : Value} {d : D} (hf : flat d = true) (r : Rep X h v d) : Rep X' h v d := by
  cases r <;> first | (simp [Mine.flat] at hf; done) | constructor
theorem ev_freeze (x : Str) {e : Expr} {d : D} {a : Addr} {ds : List D} {ow' : Own} (hx : ρ.lookup x = some (own a)) (ha : (a, OO.list ds) ∈ ow) (hw : OSub ow' ow) (hn : a ∉ ow'.map (·.1)) (hnd : (ow.map (·.1)).Nodup → (ow'.map (·.1)).Nodup) (hd : flat d = true) (h : Ev G n env ((x, .list ds) :: ρ) ow' e d) : Ev G n env ρ ow e d := .mk <| fun X A s E R F =>
  wpAny_mono (h.go _ A s E R (F.freeze hx ha hw hn (hnd F.nd))) (fun v s' q => ⟨q.1.flat hd, q.2⟩) fun _ _ y => y
theorem tst_freeze (x : Str) {e : Expr} {c : Bool} {a : Addr} {ds : List D} {ow' : Own} (hx : ρ.lookup x = some (own a)) (ha : (a, OO.list ds) ∈ ow) (hw : OSub ow' ow) (hn : a ∉ ow'.map (·.1)) (hnd : (ow.map (·.1)).Nodup → (ow'.map (·.1)).Nodup) (h : Tst G n env ((x, .list ds) :: ρ) ow' e c) : Tst G n env ρ ow e c := .mk <| fun X A s E R F =>
  h.go _ A s E R (F.freeze hx ha hw hn (hnd F.nd))
end
end
section
noncomputable def testsOf (ifs : List Expr) (env : Env) : Sem Bool := forIn ifs true fun c r => if r = true then do let ok ← isTrue c env (eval c env); pure (ForInStep.yield ok) else pure (ForInStep.yield r)
noncomputable def putOut (acc : Value) (elt : Expr) (env : Env) (k : Sem PySem.Fin) : Sem PySem.Fin := do
  (do let _ ← call (.builtin "list.append") [acc, ← eval elt env])
  k
noncomputable def inner (e : Expr) (iter' : Expr) (depth : Nat) (acc : Value) (env : Env) (k : Sem PySem.Fin) : Sem PySem.Fin := do
  let x ← eval iter' env
  standAt iter'.pos
  let x ← foldedSetIterable iter' env x
  let _ ← runOwn (.compStart e depth (← holding [x] (pyIter x)) acc env) env
  k
theorem turn_one (elt target iter : Expr) (ifs : List Expr) (scope : Scope) (pos : Pos) (it acc : Value) (env : Env) :
    compTurn (.ListComp elt [⟨target, iter, ifs, 0⟩] scope pos) 0 it acc env = (do
      standAt iter.pos
      match ← pyNext it with
      | none => pure (.done .next)
      | some v =>
        letOwnedTupleGo target it v
        assign target env v
        let ok ← testsOf ifs env
        if ok then putOut acc elt env (again (.compLoop (.ListComp elt [⟨target, iter, ifs, 0⟩] scope pos) 0 it acc env)) else again (.compLoop (.ListComp elt [⟨target, iter, ifs, 0⟩] scope pos) 0 it acc env)) := by rfl
theorem turn_two (elt target iter target' iter' : Expr) (ifs ifs' : List Expr) (scope : Scope) (pos : Pos) (it acc : Value) (env : Env) :
    compTurn (.ListComp elt [⟨target', iter', ifs', 0⟩, ⟨target, iter, ifs, 0⟩] scope pos) 1 it acc env = (do
      standAt iter.pos
      match ← pyNext it with
      | none => pure (.done .next)
      | some v =>
        letOwnedTupleGo target it v
        assign target env v
        let ok ← testsOf ifs env
        if ok then putOut acc elt env (again (.compLoop (.ListComp elt [⟨target', iter', ifs', 0⟩, ⟨target, iter, ifs, 0⟩] scope pos) 1 it acc env)) else again (.compLoop (.ListComp elt [⟨target', iter', ifs', 0⟩, ⟨target, iter, ifs, 0⟩] scope pos) 1 it acc env)) := by rfl
theorem turn_outer (elt target iter target' iter' : Expr) (ifs ifs' : List Expr) (scope : Scope) (pos : Pos) (it acc : Value) (env : Env) :
    compTurn (.ListComp elt [⟨target, iter, ifs, 0⟩, ⟨target', iter', ifs', 0⟩] scope pos) 0 it acc env = (do
      standAt iter.pos
      match ← pyNext it with
      | none => pure (.done .next)
      | some v =>
        letOwnedTupleGo target it v
        assign target env v
        let ok ← testsOf ifs env
        if ok then inner (.ListComp elt [⟨target, iter, ifs, 0⟩, ⟨target', iter', ifs', 0⟩] scope pos) iter' 1 acc env (again (.compLoop (.ListComp elt [⟨target, iter, ifs, 0⟩, ⟨target', iter', ifs', 0⟩] scope pos) 0 it acc env)) else again (.compLoop (.ListComp elt [⟨target, iter, ifs, 0⟩, ⟨target', iter', ifs', 0⟩] scope pos) 0 it acc env)) := by rfl
theorem cp_turns {prog : Program} {w : World} {A : Around} {elt target : Expr} {gens : List Comprehension} {ifs : List Expr} {scope : Scope} {pos p : Pos} {depth : Nat} {it acc : Value} {env : Env} {emitK : Sem PySem.Fin → Sem PySem.Fin} {R : Result → Shared → Prop} {s : Shared}
    (hturn : compTurn (.ListComp elt gens scope pos) depth it acc env = (do
      standAt p
      match ← pyNext it with
      | none => pure (.done .next)
      | some v =>
        letOwnedTupleGo target it v
        assign target env v
        let ok ← testsOf ifs env
        if ok then emitK (again (.compLoop (.ListComp elt gens scope pos) depth it acc env)) else again (.compLoop (.ListComp elt gens scope pos) depth it acc env)))
    (I : Nat → Shared → Prop)
    (turn : ∀ n s E', I n s → wpAny (model prog w) A (pyNext it) (fun r s₁ => match r with
      | none => R (.ok .next) s₁
      | some v => wpAny (model prog w) A (letOwnedTupleGo target it v) (fun _ s₁' => wpAny (model prog w) A (assign target env v) (fun _ s₂ =>
          wpAny (model prog w) A (testsOf ifs env) (fun ok s₃ =>
            if ok = true then ∀ k Q, (∀ s₅, (∃ m, m < n ∧ I m s₅) → wpAny (model prog w) A k Q E' s₅) → wpAny (model prog w) A (emitK k) Q E' s₃
            else ∃ m, m < n ∧ I m s₃) E' s₂) E' s₁') E' s₁) E' s)
    (n : Nat) (h : I n s) : codeAny (model prog w) A (.compLoop (.ListComp elt gens scope pos) depth it acc env) R s := by
  refine codeAny_loop rfl I (fun n s hI => ?_) n h
  show wpAny _ A ((compTurn (.ListComp elt gens scope pos) depth it acc env).onRaise (fun x => do noteFrame x env; theTreesLotGoes x)) _ _ s
  refine wpAny_noted ?_
  rw [hturn]
  refine wpAny_bind (wpAny_standAt (wpAny_bind (wpAny_mono (turn n s _ hI) (fun r s₁ h₁ => ?_) fun _ _ h' => h')))
  cases r with
  | none => exact wpAny_pure h₁
  | some v =>
    refine wpAny_bind (wpAny_mono h₁ (fun _ s₁' h₁' => wpAny_bind (wpAny_mono h₁' (fun _ s₂ h₂ => wpAny_bind (wpAny_mono h₂ (fun ok s₃ h₃ => ?_) fun _ _ h' => h')) fun _ _ h' => h')) fun _ _ h' => h')
    cases ok with
    | false => exact wpAny_pure ⟨rfl, h₃⟩
    | true => exact h₃ _ _ fun s₅ h₅ => wpAny_pure ⟨rfl, h₅⟩
structure Tsts (G : Gd) (n : Nat) (env : Env) (ρ : Loc) (ow : Own) (ifs : List Expr) (b : Bool) : Prop where
  go : ∀ (X : List Addr) (A : Around) (s : Shared) (E : Value → Shared → Prop), Room n A → Fits G env X ρ ow s → wpAny (model G.prog G.w) A (testsOf ifs env) (fun r s' => r = b ∧ Grow s s') E s
theorem tsts_nil {G : Gd} {n : Nat} {env : Env} {ρ : Loc} {ow : Own} : Tsts G n env ρ ow [] true := .mk fun X A s E R F => wpAny_tests_nil ⟨rfl, .refl _⟩
theorem tsts_one {G : Gd} {n : Nat} {env : Env} {ρ : Loc} {ow : Own} {c : Expr} {b : Bool} (h : Tst G n env ρ ow c b) : Tsts G n env ρ ow [c] b := .mk fun X A s E R F => wpAny_tests_one (h.go X A s E R F)
noncomputable def CT (env : Env) (da b : Addr) : Prop := b = env.locals ∨ b = da
theorem CT.mut {env : Env} {da b : Addr} {l : OO} (h : CT env da b) : Mut env [(da, l)] b := h.imp id fun h => .inr (List.mem_singleton.mpr h)
structure Keep (T : Addr → Prop) (s s' : Shared) : Prop where
  same : ∃ h tk, s' = { s with heap := h, toks := tk }
  heap : ∀ b o, ¬ T b → s.heap.get? b = some o → s'.heap.get? b = some o
structure Emit (G : Gd) (n : Nat) (env : Env) (da : Addr) (ρ : Loc) (emitK : Sem PySem.Fin → Sem PySem.Fin) (out : List D) : Prop where
  go : ∀ (X : List Addr) (A : Around) (s : Shared) (E : Value → Shared → Prop) (done : List D), Room n A → Fits G env X ρ [(da, .list done)] s → done.length + out.length ≤ sizeLine →
    ∀ k Q, (∀ s', Fits G env X ρ [(da, .list (done ++ out))] s' → Keep (CT env da) s s' → wpAny (model G.prog G.w) A k Q E s') → wpAny (model G.prog G.w) A (emitK k) Q E s
structure Loops (G : Gd) (n : Nat) (env : Env) (da : Addr) (ρ : Loc) (e : Expr) (depth : Nat) (target : Expr) (ds out : List D) : Prop where
  go : ∀ (X Y : List Addr) (A : Around) (s : Shared) (it : Value) (fp wr : List Addr) (St : List Addr → Nat → Heap → Prop) (done : List D) (R : Result → Shared → Prop), Room n A → Fits G env Y ρ [(da, .list done)] s → (∀ a ∈ X, a ∈ Y) → (∀ b ∈ wr, b ∈ Y) → da ∈ X → Live X s.heap →
    Run G.prog G.w A target it fp wr ds St → St Y 0 s.heap → (∀ b ∈ wr, ¬ Mut env [(da, .list [])] b ∧ G.H₀.get? b = none ∧ b ∉ X) → (∀ b ∈ fp, ¬ CT env da b) → done.length + out.length ≤ sizeLine →
    (∀ s', Fits G env X ρ [(da, .list (done ++ out))] s' → (∃ h tk, s' = { s with heap := h, toks := tk }) → (∀ b o, ¬ CT env da b → b ∉ wr → s.heap.get? b = some o → s'.heap.get? b = some o) → R (.ok .next) s') →
    codeAny (model G.prog G.w) A (.compLoop e depth it (.ref da) env) R s
section
variable {G : Gd} {n : Nat} {env : Env} {da : Addr} {ρ : Loc}
noncomputable abbrev LoI (G : Gd) (env : Env) (Y : List Addr) (ρ : Loc) (da : Addr) (out : Nat → List D) (wr : List Addr) (St : List Addr → Nat → Heap → Prop) (s : Shared) (N k : Nat) (s' : Shared) : Prop :=
  ∃ i, i ≤ N ∧ k = N - i ∧ Fits G env Y ρ [(da, .list (out i))] s' ∧ St Y i s'.heap ∧ (∃ h tk, s' = { s with heap := h, toks := tk }) ∧ (∀ b o, ¬ CT env da b → b ∉ wr → s.heap.get? b = some o → s'.heap.get? b = some o)
theorem loops_of {elt target : Expr} {gens : List Comprehension} {ifs : List Expr} {scope : Scope} {pos p : Pos} {depth : Nat} {emitK : Sem PySem.Fin → Sem PySem.Fin} {ds : List D} (F : D → List D)
    (hturn : ∀ it, compTurn (.ListComp elt gens scope pos) depth it (.ref da) env = (do
      standAt p
      match ← pyNext it with
      | none => pure (.done .next)
      | some v =>
        letOwnedTupleGo target it v
        assign target env v
        let ok ← testsOf ifs env
        if ok then emitK (again (.compLoop (.ListComp elt gens scope pos) depth it (.ref da) env)) else again (.compLoop (.ListComp elt gens scope pos) depth it (.ref da) env)))
    (step : ∀ d ∈ ds, ∃ ρ' b, (∀ done, Asg G n env [(da, .list done)] (CT env da) target d ρ ρ') ∧ Sub ρ ρ' ∧ (∀ done, Tsts G n env ρ' [(da, .list done)] ifs b) ∧ (b = true → Emit G n env da ρ' emitK (F d)) ∧ (b = false → F d = [])) :
    Loops G n env da ρ (.ListComp elt gens scope pos) depth target ds (ds.flatMap F) := .mk fun X Y A s it fp wr St done R Rm F₀ hXY hwX hDX hL hR h0 aw afp hsz hend => by
  refine cp_turns (hturn it) (LoI G env Y ρ da (fun i => done ++ (ds.take i).flatMap F) wr St s ds.length) ?_ ds.length
    ⟨0, Nat.zero_le _, rfl, by simpa using F₀, h0, ⟨_, _, rfl⟩, fun _ _ _ _ e => e⟩
  rintro k s₂ E' ⟨i, hi, rfl, F₂, st, ⟨h₂, t₂, rfl⟩, hk₂⟩
  rcases Nat.lt_or_ge i ds.length with hlt | hge
  · obtain ⟨d, hd⟩ : ∃ d, ds[i]? = some d := ⟨ds[i], List.getElem?_eq_getElem hlt⟩
    obtain ⟨ρ', b, hasg, hsub, htst, hem, hno⟩ := step d (List.mem_of_getElem? hd)
    have htake : (ds.take (i + 1)).flatMap F = (ds.take i).flatMap F ++ F d := by rw [List.take_add_one, hd]; simp
    have hlen : (done ++ (ds.take i).flatMap F).length + (F d).length ≤ sizeLine := by
      have e : ds.flatMap F = (ds.take (i + 1)).flatMap F ++ (ds.drop (i + 1)).flatMap F := by rw [← List.flatMap_append, List.take_append_drop]
      rw [e, htake] at hsz
      simp only [List.length_append] at hsz ⊢
      omega
    let I' : Shared → Prop := fun s₃ => ∃ m, m < ds.length - i ∧ LoI G env Y ρ da (fun i => done ++ (ds.take i).flatMap F) wr St s ds.length m s₃
    refine wpAny_mono (hR.item Y i d _ (fun v s₃ => wpAny (model G.prog G.w) A (assign target env v) (fun _ s₂' => wpAny (model G.prog G.w) A (testsOf ifs env) (fun ok s₃ => if ok = true then ∀ k Q, (∀ s₅, I' s₅ → wpAny (model G.prog G.w) A k Q E' s₅) → wpAny (model G.prog G.w) A (emitK k) Q E' s₃ else I' s₃) E' s₂') E' s₃) E' hwX hd st F₂.live fun v h' tk hv st' hk hl => ?_) (fun r s₃ q => ?_) fun _ _ y => y
    · have F₃ : Fits G env Y ρ [(da, .list (done ++ (ds.take i).flatMap F))] { s with heap := h', toks := tk } := F₂.wr (tk := tk) hk hwX (fun _ q => q) (fun p hp => (F₂.owns p hp).2) (fun b hb _ => hl b hb) fun b hb => ⟨(aw b hb).1, (aw b hb).2.1⟩
      refine (hasg _).go _ A _ _ _ v Rm F₃ hv fun s₄ e₄ k₄ F₄ => ?_
      have st₄ : St Y (i + 1) s₄.heap := hR.frame _ _ _ _ st' (fun b hb o e => k₄ b o (afp b hb) e) fun b o hb l e => k₄ b o (fun q => F₃.look_away hb e l q.mut) e
      refine wpAny_mono ((htst _).go _ A s₄ E' Rm F₄) (fun ok s₅ q => ?_) fun _ _ y => y
      obtain ⟨rfl, g⟩ := q
      have F₅ := F₄.keeps g
      have st₅ : St Y (i + 1) s₅.heap := hR.frame _ _ _ _ st₄ (fun b hb o e => g.heap b o e) fun b o hb l e => g.heap b o e
      have e₅ : ∃ h tk, s₅ = { s with heap := h, toks := tk } := by
        obtain ⟨h4, t4, rfl⟩ := e₄
        obtain ⟨⟨h5, t5, rfl⟩, _⟩ := g
        exact ⟨_, _, rfl⟩
      have k₅ : ∀ b o, ¬ CT env da b → b ∉ wr → s.heap.get? b = some o → s₅.heap.get? b = some o := fun b o hb hw e => g.heap b o (k₄ b o hb (hk b o hw (hk₂ b o hb hw e)))
      cases ok with
      | true =>
        rw [if_pos rfl]
        intro kk Q hkk
        refine (hem rfl).go _ A s₅ E' _ Rm F₅ hlen kk Q fun s₆ F₆ t₆ => hkk s₆ ?_
        refine ⟨ds.length - (i + 1), by omega, i + 1, hlt, rfl, ?_, hR.frame _ _ _ _ st₅ (fun b hb o e => t₆.heap b o (afp b hb) e) (fun b o hb l e => t₆.heap b o (fun q => F₅.look_away hb e l q.mut) e), ?_, fun b o hb hw e => t₆.heap b o hb (k₅ b o hb hw e)⟩
        · dsimp only; rw [htake, ← List.append_assoc]; exact F₆.sub hsub
        · obtain ⟨h5, t5, rfl⟩ := e₅
          obtain ⟨⟨h6, t6, rfl⟩, _⟩ := t₆
          exact ⟨_, _, rfl⟩
      | false =>
        rw [if_neg (by simp)]
        refine ⟨ds.length - (i + 1), by omega, i + 1, hlt, rfl, ?_, st₅, e₅, k₅⟩
        dsimp only; rw [htake, hno rfl, List.append_nil]; exact F₅.sub hsub
    · obtain ⟨v, rfl, q⟩ := q
      exact q
  · have : i = ds.length := Nat.le_antisymm hi hge
    subst this
    refine hR.done _ _ _ _ st fun h' tk hk => ?_
    dsimp only at F₂
    rw [List.take_length] at F₂
    have F₃ : Fits G env X ρ [(da, .list (done ++ ds.flatMap F))] { s with heap := h', toks := tk } := F₂.wr (tk := tk) hk hwX hXY (fun p hp => by rw [List.mem_singleton.mp hp]; exact hDX) (fun b hb hbX => absurd hbX (aw b hb).2.2) fun b hb => ⟨(aw b hb).1, (aw b hb).2.1⟩
    exact hend _ F₃ ⟨h', tk, rfl⟩ fun b o hb hw e => hk b o hw (hk₂ b o hb hw e)
theorem emit_elt {elt : Expr} {d : D} (h : ∀ done, Ev G n env ρ [(da, .list done)] elt d) : Emit G n env da ρ (putOut (.ref da) elt env) [d] := .mk fun X A s E done R F hsz k Q hk => by
  refine wpAny_bind (wpAny_bind (wpAny_mono ((h done).go X A s E R F) (fun v s₁ q => ?_) fun _ _ y => y))
  refine wpAny_bind (append_own (F.keeps q.2) (.head []) q.1 (by simp at hsz; omega) fun h' tk F' t' k' => wpAny_pure (hk _ F' ⟨?_, fun b o hb e => k' b o (fun z => hb (.inr z)) (q.2.heap b o e)⟩))
  obtain ⟨⟨h1, t1, rfl⟩, _⟩ := q.2
  exact ⟨_, _, rfl⟩
end
end
section
theorem compStart_any {prog : Program} {w : World} {A : Around} {elt : Expr} {gens : List Comprehension} {scope : Scope} {pos : Pos} {depth : Nat} {it acc : Value} {env : Env} {R : Result → Shared → Prop} {s : Shared} {g : Comprehension} (hg : gens[depth]? = some g) (ha : g.is_async = 0)
    (h0 : codeAny (model prog w) A (.compLoop (.ListComp elt gens scope pos) depth it acc env) R s)
    (h : ∀ E, wpAny (model prog w) A (pyIter it) (fun it' s' => codeAny (model prog w) A (.compLoop (.ListComp elt gens scope pos) depth it' acc env) R s') E s) :
    codeAny (model prog w) A (.compStart (.ListComp elt gens scope pos) depth it acc env) R s := by
  refine codeAny_of_tree ?_
  show wpAny _ _ ((compStart (.ListComp elt gens scope pos) depth it acc env).onRaise (fun x => do noteFrame x env; standAt theWindowsPlace)) _ _ s
  refine wpAny_notedAt ?_
  unfold compStart
  have e : (clausesOf (.ListComp elt gens scope pos))[depth]? = some g := hg
  rw [e]
  simp only [Option.elim_some, ha]
  show wpAny _ _ (ask >>= _) _ _ s
  refine wpAny_bind (wpAny_askSetting (wpAny_ite ?_))
  split
  · first
      | exact wpAny_bind (wpAny_pure (wpAny_pure (And.intro rfl h0)))
      | exact wpAny_pure (And.intro rfl h0)
  · first
      | exact wpAny_bind (wpAny_rule (wpAny_bind (wpAny_standAt (wpAny_bind (wpAny_mono (h _) (fun it' s' h' => wpAny_pure (And.intro rfl h')) fun _ _ x => x)))))
      | (refine wpAny_bind (wpAny_rule ?_); show wpAny _ _ (standAt g.iter.pos >>= _) _ _ s; exact wpAny_bind (wpAny_standAt (wpAny_bind (wpAny_mono (h _) (fun it' s' h' => wpAny_pure (And.intro rfl h')) fun _ _ x => x))))
section
variable {G : Gd} {n : Nat} {env : Env} {da : Addr} {ρ : Loc}
theorem emit_inner {elt target iter target' iter' : Expr} {ifs ifs' : List Expr} {scope : Scope} {pos : Pos} {ds out : List D} (hs : ∀ done, Src G n env ρ [(da, .list done)] target' iter' ds) (hfold : ∀ x, foldedSetIterable iter' env x = pure x)
    (hl : Loops G n env da ρ (.ListComp elt [⟨target, iter, ifs, 0⟩, ⟨target', iter', ifs', 0⟩] scope pos) 1 target' ds out) :
    Emit G n env da ρ (inner (.ListComp elt [⟨target, iter, ifs, 0⟩, ⟨target', iter', ifs', 0⟩] scope pos) iter' 1 (.ref da) env) out := .mk fun X A s E done R F hsz k Q hk => by
  unfold inner
  refine wpAny_bind (wpAny_mono ((hs done).go X A s (fun it s₂ => wpAny (model G.prog G.w) A (runOwn (.compStart (.ListComp elt [⟨target, iter, ifs, 0⟩, ⟨target', iter', ifs', 0⟩] scope pos) 1 it (.ref da) env) env) (fun _ s₃ => wpAny (model G.prog G.w) A k Q E s₃) E s₂) E R F fun it fp wr St s₂ hR h0 g hw hf => ?_) (fun x s₁ h₁ => wpAny_bind (wpAny_standAt (wpAny_bind (wpAny_of_eq (hfold x) (wpAny_bind (wpAny_holding (wpAny_mono h₁ (fun it s₂ h₂ => wpAny_bind h₂) fun _ _ y => y))))))) fun _ _ y => y)
  have F₂ : Fits G env (wr ++ X) ρ [(da, .list done)] s₂ := F.more g hw
  have hdX : da ∈ X := (F.owns _ (List.mem_singleton.mpr rfl)).2
  have aw : ∀ b ∈ wr, ¬ Mut env [(da, .list [])] b ∧ G.H₀.get? b = none ∧ b ∉ X := fun b hb => ⟨(F.new_away (hw b hb).1).1, (F.new_away (hw b hb).1).2, fun q => by obtain ⟨o, e⟩ := F.live b q; rw [(hw b hb).1] at e; cases e⟩
  have afp : ∀ b ∈ fp, ¬ CT env da b := fun b hb z => by
    rcases hf b hb with q | ⟨q, ob, eo, l⟩
    · exact (aw b q).1 z.mut
    · exact (F.keeps g).look_away q eo l z.mut
  have key : ∀ (s₃ : Shared) , s₃ = s₂ → codeAny (model G.prog G.w) A (.compLoop (.ListComp elt [⟨target, iter, ifs, 0⟩, ⟨target', iter', ifs', 0⟩] scope pos) 1 it (.ref da) env) (fun r s' => match r with | .ok f => wpAny (model G.prog G.w) A k Q E s' | .error e => cameBackBy (model G.prog G.w) A env E e s') s₃ := by
    rintro s₃ rfl
    refine hl.go X (wr ++ X) A _ it fp wr St done _ R F₂ (fun a q => List.mem_append_right _ q) (fun a q => List.mem_append_left _ q) hdX (F.live.keeps g.heap) (hR A R.hd) h0 aw afp hsz fun s' F' e' k' => hk s' F' ?_
    obtain ⟨⟨h2, t2, rfl⟩, kg⟩ := g
    obtain ⟨h3, t3, rfl⟩ := e'
    exact ⟨⟨h3, t3, rfl⟩, fun b o hb e => k' b o hb (fun q => by rw [(hw b q).1] at e; cases e) (kg b o e)⟩
  exact wpAny_runOwn (compStart_any (g := ⟨target', iter', ifs', 0⟩) rfl rfl (key _ rfl) fun E' => (hR A R.hd).self _ 0 _ _ _ h0 (key _ rfl))
end
noncomputable def closN (cells : List (Str × Addr)) : List (Str × NameKind) → List (Str × Addr) → List (Str × Addr)
  | [], acc => acc
  | (x, k) :: r, acc => if k == .free then (match cells.lookup x with | some c => closN cells r ((x, c) :: acc) | none => closN cells r acc) else closN cells r acc
noncomputable def closOk (cells : List (Str × Addr)) (names : List (Str × NameKind)) : Bool := names.all fun p => p.2 != .free || (cells.lookup p.1).isSome
theorem closureFor_is {scope : Scope} {env : Env} (h : closOk env.cells scope.names = true) : closureFor scope env = pure (closN env.cells scope.names []) := by
  unfold closureFor
  have : ∀ (names : List (Str × NameKind)) (acc : List (Str × Addr)), closOk env.cells names = true →
      (forIn names acc fun (x : Str × NameKind) cs => (if x.2 == .free then do let __do_lift ← cellOf env x.1; pure (ForInStep.yield ((x.1, __do_lift) :: cs)) else pure (ForInStep.yield cs) : Sem _)) = pure (closN env.cells names acc) := by
    intro names
    induction names with
    | nil => intro acc _; rfl
    | cons p r ih =>
      intro acc h
      obtain ⟨x, k⟩ := p
      have h1 : (k != .free || (env.cells.lookup x).isSome) = true := (Bool.and_eq_true_iff.mp h).1
      have h2 : closOk env.cells r = true := (Bool.and_eq_true_iff.mp h).2
      simp only [List.forIn_cons, closN]
      cases hk : k == NameKind.free with
      | false => simp only [Bool.false_eq_true, if_false]; exact ih acc h2
      | true =>
        have hs : (env.cells.lookup x).isSome = true := by
          rcases Bool.or_eq_true_iff.mp h1 with q | q
          · rw [bne, hk] at q; cases q
          · exact q
        obtain ⟨c, hc⟩ := Option.isSome_iff_exists.mp hs
        simp only [if_true, hc]
        have : cellOf env x = pure c := by unfold cellOf; rw [hc]
        rw [this]
        exact ih _ h2
  have h' := this scope.names [] h
  refine Eq.trans ?_ (congrArg (fun m => m >>= pure) h')
  rfl
set_option tactic.hygienic true in
theorem closN_get {cells : List (Str × Addr)} : ∀ {names : List (Str × NameKind)} {acc : List (Str × Addr)}, (∀ x c, acc.lookup x = some c → cells.lookup x = some c) → ∀ x c, (closN cells names acc).lookup x = some c → cells.lookup x = some c
  | [], acc, ha, x, c, h => ha x c h
  | (y, k) :: r, acc, ha, x, c, h => by
    unfold closN at h
    split at h
    · split at h
      · rename_i c' hc'
        refine closN_get (fun x c h => ?_) x c h
        rw [List.lookup_cons] at h
        cases hb : x == y with
        | true => rw [hb] at h; cases h; rw [beq_iff_eq.mp hb]; exact hc'
        | false => rw [hb] at h; exact ha x c h
      · exact closN_get ha x c h
    · exact closN_get ha x c h
set_option tactic.hygienic true in
theorem closN_more {cells : List (Str × Addr)} : ∀ {names : List (Str × NameKind)} {acc : List (Str × Addr)} {x : Str} {c : Addr}, (∀ x c, acc.lookup x = some c → cells.lookup x = some c) → cells.lookup x = some c → (acc.lookup x = some c ∨ (x, NameKind.free) ∈ names) → (closN cells names acc).lookup x = some c
  | [], acc, x, c, ha, hc, h => by rcases h with h | h <;> first | exact h | cases h
  | (y, k) :: r, acc, x, c, ha, hc, h => by
    unfold closN
    split
    · split
      · rename_i c' hc'
        refine closN_more (fun x c h => ?_) hc ?_
        · rw [List.lookup_cons] at h
          cases hb : x == y with
          | true => rw [hb] at h; cases h; rw [beq_iff_eq.mp hb]; exact hc'
          | false => rw [hb] at h; exact ha x c h
        · by_cases q : x = y
          · subst q; rw [hc] at hc'; cases hc'; exact .inl (by simp)
          · rcases h with h | h
            · left; rw [List.lookup_cons]; have : (x == y) = false := by simpa using q
              rw [this]; exact h
            · rcases List.mem_cons.mp h with h | h
              · cases h; exact absurd rfl q
              · exact .inr h
      · rename_i hc'
        refine closN_more ha hc (h.imp id fun h => ?_)
        rcases List.mem_cons.mp h with h | h
        · cases h; rw [hc] at hc'; cases hc'
        · exact h
    · rename_i hk
      refine closN_more ha hc (h.imp id fun h => ?_)
      rcases List.mem_cons.mp h with h | h
      · cases h; simp at hk
      · exact h
noncomputable def freeIn (scope : Scope) (env : Env) (x : Str) : Bool := scope.names.lookup x == some .free && env.kindOf x != some .local
inductive FSub (scope : Scope) (env : Env) : Loc → Loc → Prop
  | nil (ρ : Loc) : FSub scope env [] ρ
  | cons {x : Str} {d : D} {ρ' ρ : Loc} : ρ.lookup x = some d → freeIn scope env x = true → FSub scope env ρ' ρ → FSub scope env ((x, d) :: ρ') ρ
set_option tactic.hygienic true in
theorem FSub.get {scope : Scope} {env : Env} {ρ' ρ : Loc} (h : FSub scope env ρ' ρ) : ∀ x d, ρ'.lookup x = some d → ρ.lookup x = some d ∧ freeIn scope env x = true := by
  induction h with
  | nil ρ => intro x d e; cases e
  | cons h1 h2 _ ih =>
    intro x d e
    rw [List.lookup_cons] at e
    split at e
    · rename_i hb; cases e; rw [beq_iff_eq.mp hb]; exact ⟨h1, h2⟩
    · exact ih x d e
theorem relabel_free {scope : Scope} {env : Env} {x : Str} (h : scope.names.lookup x = some .free) : (relabel scope env).names.lookup x = some .cell ∨ (relabel scope env).names.lookup x = some .free := by
  unfold relabel
  dsimp only
  revert h
  generalize scope.names = names
  induction names with
  | nil => intro h; cases h
  | cons p r ih =>
    obtain ⟨y, k⟩ := p
    intro h
    rw [List.lookup_cons] at h
    rw [List.map_cons]
    dsimp only
    by_cases hc : (k == NameKind.free && env.scope.kind == ScopeKind.function && env.kindOf y == some NameKind.cell) = true
    · rw [if_pos hc, List.lookup_cons]
      cases hb : x == y with
      | true => exact .inl rfl
      | false => rw [hb] at h; exact ih h
    · rw [if_neg hc, List.lookup_cons]
      cases hb : x == y with
      | true => rw [hb] at h; cases h; exact .inr rfl
      | false => rw [hb] at h; exact ih h
noncomputable abbrev cenvOf (scope : Scope) (env : Env) (C : Addr) : Env := compEnvC scope (closN env.cells scope.names []) C env
section
variable {G : Gd} {n : Nat} {env : Env} {X : List Addr} {ρ : Loc} {ow : Own} {s : Shared}
theorem Fits.but (F : Fits G env X ρ ow s) {C : Addr} {h' : Heap} {tk : Nat} (hs : Heap.SameBut C s.heap h') (hl : ∀ o, s.heap.get? C = some o → ¬ look o) (hm : ¬ Mut env ow C) (hH : G.H₀.get? C = none) (hX : C ∉ X) : Fits G env X ρ ow { s with heap := h', toks := tk } := by
  have hsame : Same X s.heap h' := .of_but hs (.inr hl)
  have km : ∀ b o, Mut env ow b → s.heap.get? b = some o → h'.get? b = some o := fun b o q e => (hs.2 b fun z => hm (z ▸ q)).trans e
  refine ⟨fun b o e => (hs.2 b fun z => by rw [z, hH] at e; cases e).trans (F.base b o e), F.fn, F.gl, F.bl, ?_, fun n d e => ?_, fun p hp => ⟨?_, (F.owns p hp).2⟩, F.nd, fun a ha => ?_, F.apart, F.inj, fun y c e => ?_, F.sep⟩
  · obtain ⟨m, hm⟩ := F.ns; exact ⟨m, hm.at' fun o e => km _ o (.inl rfl) e⟩
  · cases F.vars n d e with
    | loc m v a b c r => exact .loc m v a (b.at' fun o e => km _ o (.inl rfl) e) c (r.mono hsame)
    | cell c v a b e' r => exact .cell c v a b (let ⟨o, ho, hd⟩ := e'; ⟨o, km c o (.inr (.inl ⟨n, b⟩)) ho, hd⟩) (r.mono hsame)
  · exact (F.owns p hp).1.at (fun o e => km _ o (.inr (.inr (List.mem_map.mpr ⟨p, hp, rfl⟩))) e) hsame
  · obtain ⟨o, e⟩ := F.live a ha; exact ⟨o, (hs.2 a fun z => hX (z ▸ ha)).trans e⟩
  · obtain ⟨v, o, ho, hd⟩ := F.cel y c e; exact ⟨v, o, km c o (.inr (.inl ⟨y, e⟩)) ho, hd⟩
theorem Fits.comp (F : Fits G env X ρ ow s) {scope : Scope} {ρc : Loc} {D C : Addr} {s' : Shared} (g : Grow s s') (hf : FSub scope env ρc ρ) (hkind : scope.kind = .function) (hD : s.heap.get? D = none) (hC : s.heap.get? C = none) (hDC : D ≠ C) (hl : PL s'.heap D []) {m : Str → Option Value} (hn : s'.heap.Ns C m) :
    Fits G (cenvOf scope env C) (D :: X) ρc [(D, .list [])] s' := by
  have F' := F.more (wr := [D]) g fun b hb => by rw [List.mem_singleton.mp hb]; obtain ⟨k, e⟩ := hl; exact ⟨hD, _, e⟩
  have hcl : ∀ x c, (closN env.cells scope.names []).lookup x = some c → env.cells.lookup x = some c := fun x c e => closN_get (fun _ _ h => by cases h) x c e
  refine ⟨F'.base, hkind, F.gl, F.bl, ⟨m, hn⟩, fun x d e => ?_, fun p hp => ?_, by simp, F'.live, fun b o e q => ?_, fun n n' c h h' => F.inj n n' c (hcl n c h) (hcl n' c h'), fun y c e => F'.cel y c (hcl y c e), fun p hp => ?_⟩
  · obtain ⟨h1, h2⟩ := hf.get x d e
    obtain ⟨h3, h4⟩ := Bool.and_eq_true_iff.mp h2
    have hfree : scope.names.lookup x = some .free := by simpa using h3
    have hnl : env.kindOf x ≠ some .local := by simpa using h4
    cases F'.vars x d h1 with
    | loc m v a b c r => exact absurd a hnl
    | cell c v a b e' r => exact .cell c v (relabel_free hfree) (closN_more (fun _ _ h => by cases h) b (.inr (mem_of_lookup hfree))) e' r
  · rw [List.mem_singleton.mp hp]; exact ⟨⟨[], hl, .nil⟩, List.mem_cons_self ..⟩
  · rcases q with q | ⟨n', q⟩ | q
    · rw [show b = C from q] at e; exact absurd e (by rw [(F.new_away hC).2]; simp)
    · exact F.apart b o e (.inr (.inl ⟨n', hcl n' b q⟩))
    · simp only [List.map_cons, List.map_nil, List.mem_singleton] at q
      rw [q, (F.new_away hD).2] at e; cases e
  · rw [List.mem_singleton.mp hp]
    exact ⟨hDC, fun n c hc q => (F.new_away hD).1 (.inr (.inl ⟨n, by rw [show D = c from q]; exact hcl n c hc⟩))⟩
theorem comp_any {A : Around} {E : Value → Shared → Prop} {ρc : Loc} {target iter elt : Expr} {ifs : List Expr} {gs : List Comprehension} {scope : Scope} {pos p : Pos} {ds out : List D} {use : Option (Value → Sem Unit)} {Q : Value → Shared → Prop} (R : Room n A) (F : Fits G env X ρ ow s)
    (hs : Src G n env ρ ow target iter ds) (hfold : ∀ x, foldedSetIterable iter env x = pure x) (hcl : closOk env.cells scope.names = true) (hkind : scope.kind = .function) (hnames : ∀ x ∈ scope.names, x.2 = .local → scope.names.lookup x.1 = some .local) (hcell : ∀ y ∈ scope.names, y.2 ≠ .cell)
    (hf : FSub scope env ρc ρ) (hL : ∀ C D, Loops G n (cenvOf scope env C) D ρc (.ListComp elt (⟨target, iter, ifs, 0⟩ :: gs) scope pos) 0 target ds out) (hsz : out.length ≤ sizeLine)
    (h : ∀ D C s' m, Fits G env X ρ ow s' → Grow s s' → Rep X s'.heap (.ref D) (.list out) → s.heap.get? C = none → s'.heap.Ns C m → compPost (model G.prog G.w) A E use Q (.ref D) C (.ok .next) s') :
    wpAny (model G.prog G.w) A (comprehension (.ListComp elt (⟨target, iter, ifs, 0⟩ :: gs) scope pos) scope env p (newList []) false (eval iter env) use) Q E s := by
  refine wpAny_comprehension_free rfl hfold (closureFor_is hcl) hkind hnames (hs.go X A s _ E R F fun it fp wr St s₂ hR h0 g hw hf' => ?_)
  refine wpAny_newObj_type (wpAny_newFunctionEnv hcell (by intro y hy; simp at hy) (fun h₁ hns₁ hsb₁ => ?_) hkind)
  dsimp only at hns₁ hsb₁ ⊢
  generalize hH2 : s₂.heap.push { cls := .type "list", dict := none, data := .seq ([] : List Value).toArray } = H2 at hns₁ hsb₁ ⊢
  have hC : H2.objs.size = s₂.heap.objs.size + 1 := by rw [← hH2, Heap.size_push]
  have hDC : s₂.heap.objs.size ≠ H2.objs.size := by rw [hC]; exact Nat.ne_of_lt (Nat.lt_succ_self _)
  have old : ∀ b o, s₂.heap.get? b = some o → h₁.get? b = some o := fun b o e => hsb₁.extBut b o (by rw [hC]; exact Nat.ne_of_lt (Nat.lt_succ_of_lt (Heap.lt_size e))) (Heap.get?_push_of_some _ (hH2 ▸ Heap.get?_push_of_some _ e))
  have hacc : PL h₁ s₂.heap.objs.size [] := ⟨_, hsb₁.extBut _ _ hDC (Heap.get?_push_of_some _ (hH2 ▸ Heap.get?_push_size _ rfl))⟩
  have none2 : ∀ a, s₂.heap.objs.size ≤ a → s₂.heap.get? a = none := fun a ha => by
    cases e : s₂.heap.get? a with
    | none => rfl
    | some o' => exact absurd (Heap.lt_size e) (Nat.not_lt.mpr ha)
  have none0 : ∀ a, s₂.heap.get? a = none → s.heap.get? a = none := fun a ha => by
    cases e : s.heap.get? a with
    | none => rfl
    | some o' => rw [g.heap a o' e] at ha; cases ha
  have hD2 := none2 _ (Nat.le_refl _)
  have hC2 := none2 H2.objs.size (by rw [hC]; exact Nat.le_succ _)
  generalize hD : s₂.heap.objs.size = D at *
  generalize hCC : H2.objs.size = C at *
  have F₂ : Fits G env (wr ++ X) ρ ow s₂ := F.more g hw
  have key : ∀ s₃ : Shared, s₃ = { s₂ with heap := h₁, toks := s₂.toks + ([] : List (Str × Value)).length } →
      codeAny (model G.prog G.w) A (.compLoop (.ListComp elt (⟨target, iter, ifs, 0⟩ :: gs) scope pos) 0 it (.ref D) (cenvOf scope env C)) (compPost (model G.prog G.w) A E use Q (.ref D) C) s₃ := by
    intro s₃ hs₃
    have g₃ : Grow s₂ s₃ := by rw [hs₃]; exact .of old
    have hl₃ : PL s₃.heap D [] := by rw [hs₃]; exact hacc
    have hn₃ : s₃.heap.Ns C (fun x => ([] : List (Str × Value)).reverse.lookup x) := by rw [hs₃]; exact hns₁
    have Fc := F₂.comp g₃ hf hkind hD2 hC2 hDC hl₃ hn₃
    have R' := hR A R.hd
    have st₂ : St (D :: (wr ++ X)) 0 s₂.heap := R'.lift _ _ _ _ h0 hD2
    have st₃ : St (D :: (wr ++ X)) 0 s₃.heap := R'.frame _ _ _ _ st₂ (fun b _ o e => g₃.heap b o e) fun b o _ _ e => g₃.heap b o e
    have awc : ∀ b ∈ wr, ¬ Mut (cenvOf scope env C) [(D, .list [])] b ∧ G.H₀.get? b = none ∧ b ∉ D :: X := fun b hb => by
      have h1 := F.new_away (hw b hb).1
      obtain ⟨ob, eb⟩ := (hw b hb).2
      have hbD : b ≠ D := fun q => by rw [q, hD2] at eb; cases eb
      have hbC : b ≠ C := fun q => by rw [q, hC2] at eb; cases eb
      refine ⟨fun q => ?_, h1.2, fun q => ?_⟩
      · rcases q with q | ⟨n', q⟩ | q
        · exact hbC q
        · exact h1.1 (.inr (.inl ⟨n', closN_get (fun _ _ h => by cases h) n' b q⟩))
        · exact hbD (List.mem_singleton.mp q)
      · rcases List.mem_cons.mp q with q | q
        · exact hbD q
        · obtain ⟨o, e⟩ := F.live b q; rw [(hw b hb).1] at e; cases e
    have afp : ∀ b ∈ fp, ¬ CT (cenvOf scope env C) D b := fun b hb z => by
      rcases hf' b hb with q | ⟨q, ob, eo, l⟩
      · exact (awc b q).1 z.mut
      · rcases z with z | z
        · rw [show b = C from z, hC2] at eo; cases eo
        · rw [z, hD2] at eo; cases eo
    refine (hL C D).go (D :: X) (D :: (wr ++ X)) A s₃ it fp wr St [] _ R Fc (fun a q => ?_) (fun b hb => List.mem_cons_of_mem _ (List.mem_append_left _ hb)) (List.mem_cons_self ..) (fun a q => ?_) R' st₃ awc afp (by simpa using hsz) fun s₄ F₄ e₄ k₄ => ?_
    · rcases List.mem_cons.mp q with q | q
      · exact q ▸ List.mem_cons_self ..
      · exact List.mem_cons_of_mem _ (List.mem_append_right _ q)
    · exact Fc.live a (by
        rcases List.mem_cons.mp q with q | q
        · exact q ▸ List.mem_cons_self ..
        · exact List.mem_cons_of_mem _ (List.mem_append_right _ q))
    · have up : ∀ b o, s.heap.get? b = some o → s₄.heap.get? b = some o := fun b o e => by
        have e2 := g.heap b o e
        refine k₄ b o (fun z => ?_) (fun q => by rw [(hw b q).1] at e; cases e) (g₃.heap b o e2)
        rcases z with z | z
        · rw [show b = C from z, hC2] at e2; cases e2
        · rw [z, hD2] at e2; cases e2
      have gg : Grow s s₄ := by
        obtain ⟨h4, t4, rfl⟩ := e₄
        obtain ⟨⟨h2, t2, rfl⟩, _⟩ := g
        subst hs₃
        exact ⟨⟨h4, t4, rfl⟩, up⟩
      obtain ⟨m, hm⟩ := F₄.ns
      obtain ⟨vs, hlD, ra⟩ := (F₄.owns _ (List.mem_singleton.mpr rfl)).1
      refine h D C s₄ m (F.keeps gg) gg (.list hlD (fun q => ?_) (ra.sub fun a q => List.mem_cons_of_mem _ q)) (none0 _ hC2) hm
      obtain ⟨o, e⟩ := F.live D q
      rw [none0 _ hD2] at e; cases e
  exact codeAny_compStart_list (key _ rfl) ((hR A R.hd).self (wr ++ X) 0 _ _ _ ((hR A R.hd).frame _ _ _ _ h0 (fun b _ o e => old b o e) fun b o _ _ e => old b o e) (key _ rfl))
theorem ev_comp {ρc : Loc} {target iter elt : Expr} {ifs : List Expr} {gs : List Comprehension} {scope : Scope} {pos : Pos} {ds out : List D} (hs : Src G n env ρ ow target iter ds) (hfold : ∀ x, foldedSetIterable iter env x = pure x)
    (hcl : closOk env.cells scope.names = true) (hkind : scope.kind = .function) (hnames : ∀ x ∈ scope.names, x.2 = .local → scope.names.lookup x.1 = some .local) (hcell : ∀ y ∈ scope.names, y.2 ≠ .cell)
    (hf : FSub scope env ρc ρ) (hL : ∀ C D, Loops G n (cenvOf scope env C) D ρc (.ListComp elt (⟨target, iter, ifs, 0⟩ :: gs) scope pos) 0 target ds out) (hsz : out.length ≤ sizeLine) :
    Ev G n env ρ ow (.ListComp elt (⟨target, iter, ifs, 0⟩ :: gs) scope pos) (.list out) := .mk fun X A s E R F => by
  rw [eval_ListComp]
  refine comp_any (use := none) R F hs hfold hcl hkind hnames hcell hf hL hsz fun D C s' m F' g r hC hn => ⟨m, hn, fun h' hs' => ?_⟩
  have hl := ns_look hn
  have hm : Same X s'.heap h' := .of_but hs' (.inr hl)
  obtain ⟨⟨h2, t2, rfl⟩, k⟩ := g
  exact ⟨r.mono hm, ⟨h', t2, rfl⟩, fun b o e => (hs'.2 b fun q => by rw [q, hC] at e; cases e).trans (k b o e)⟩
theorem ex_comp {x : Str} {px spos : Pos} {rest : List Stmt} {bs : List (List Stmt)} {o : Out} {ρc : Loc} {target iter elt : Expr} {ifs : List Expr} {gs : List Comprehension} {scope : Scope} {pos : Pos} {ds out : List D} (hk : storable env x = true) (hsw : swapsWith (.ListComp elt (⟨target, iter, ifs, 0⟩ :: gs) scope pos) (some (.Name x px)) spos.line env = pure true) (hs : Src G n env ρ ow target iter ds) (hfold : ∀ x, foldedSetIterable iter env x = pure x)
    (hcl : closOk env.cells scope.names = true) (hkind : scope.kind = .function) (hnames : ∀ x ∈ scope.names, x.2 = .local → scope.names.lookup x.1 = some .local) (hcell : ∀ y ∈ scope.names, y.2 ≠ .cell)
    (hf : FSub scope env ρc ρ) (hL : ∀ C D, Loops G n (cenvOf scope env C) D ρc (.ListComp elt (⟨target, iter, ifs, 0⟩ :: gs) scope pos) 0 target ds out) (hsz : out.length ≤ sizeLine)
    (h : Ex G n env ((x, .list out) :: ρ) ow (rest :: bs) o) :
    Ex G n env ρ ow ((.Assign [.Name x px] (.ListComp elt (⟨target, iter, ifs, 0⟩ :: gs) scope pos) spos :: rest) :: bs) o := .mk fun X A s E R B F => by
  refine wpAny_execs_cons ?_
  rw [exec_Assign_Name_used _ _ _ _ hsw]
  refine wpAny_bind (wpAny_standAt (wpAny_bind ?_))
  refine wpAny_bind (wpAny_mono (comp_any (use := some (assign (.Name x px) env)) (Q := fun _ s' => seqP (model G.prog G.w) A env E (rest :: bs) (fun f s₂ => Turn env ow s s₂ ∧ OutIs G env o f s₂) .next s') R F hs hfold hcl hkind hnames hcell hf hL hsz fun D C s' m F' g r hC hn => ?_) (fun _ s' hq => wpAny_pure (wpAny_pure hq)) fun _ _ y => y)
  refine wpAny_assign_Name (store_any hk F' r fun h₁ t₁ F₁ T₁ k₁ => ?_)
  have away := F.new_away hC
  have hne : C ≠ env.locals := fun q => away.1 (.inl q)
  obtain ⟨oc, _, _, hoc, _⟩ := id hn
  have hn₁ : h₁.Ns C m := hn.at' fun o e => k₁ C o hne (fun _ c hc q => away.1 (.inr (.inl ⟨x, q ▸ hc⟩))) e
  refine ⟨m, hn₁, fun h' hs' => ?_⟩
  have hCX : C ∉ X := fun q => by obtain ⟨o, e⟩ := F.live C q; rw [hC] at e; cases e
  have F₂ : Fits G env X ((x, .list out) :: ρ) ow { s' with heap := h', toks := t₁ } := F₁.but (tk := t₁) hs' (ns_look hn₁) away.1 away.2 hCX
  refine h.from' R B F₂ ?_
  have tt := g.turn.trans T₁
  obtain ⟨⟨h3, t3, e3⟩, k3⟩ := tt
  obtain ⟨⟨h2, t2, rfl⟩, _⟩ := g
  exact ⟨⟨h', t₁, rfl⟩, fun b o hb e => (hs'.2 b fun q => by rw [q, hC] at e; cases e).trans (k3 b o hb e)⟩
end
end
section
noncomputable abbrev tx (l : List Nat) : Str := ⟨l.toArray⟩
theorem tx_len (l : List Nat) : (tx l).length = l.length := by simp [Str.length]
noncomputable def idxs (c : Nat) (l : List Nat) : List Nat := (List.range (l.length + 1)).filter fun i => l[i]? == some c
theorem occ_go (x : Str) (c hi limit : Nat) (hx : hi = x.length) : ∀ (L : List Nat) (st : Array Nat × Nat), L.Pairwise (· < ·) → (∀ i ∈ L, st.snd ≤ i) →
    (forIn L st (StrLaws.occBody x ⟨#[c]⟩ hi limit)).run.fst.toList = st.fst.toList ++ (L.filter fun i => x.cps.toList[i]? == some c).take (limit - st.fst.size)
  | [], st, _, _ => by simp
  | a :: L, st, hp, hf => by
    have hp' := List.pairwise_cons.mp hp
    have ha := hf a (List.mem_cons_self ..)
    rw [List.forIn_cons]
    unfold StrLaws.occBody
    by_cases hc : x.cps.toList[a]? = some c
    · have hc' := (StrLaws.subAt_one x c a).mpr hc
      rw [← hx] at hc'
      have hfil : (List.filter (fun i => x.cps.toList[i]? == some c) (a :: L)) = a :: List.filter (fun i => x.cps.toList[i]? == some c) L := by rw [List.filter_cons, if_pos (by simpa using hc)]
      by_cases hs : st.fst.size < limit
      · rw [if_pos ⟨⟨⟨hs, ha⟩, hc'.1⟩, hc'.2⟩]
        have ih := occ_go x c hi limit hx L (st.fst.push a, a + (⟨#[c]⟩ : Str).length) hp'.2 (fun i hi' => by
          have := hp'.1 i hi'
          show a + 1 ≤ i
          omega)
        refine Eq.trans ih ?_
        rw [hfil]
        have e : limit - st.fst.size = (limit - (st.fst.push a).size) + 1 := by rw [Array.size_push]; omega
        rw [e, List.take_succ_cons]
        simp
      · rw [if_neg (fun h => hs h.1.1.1)]
        have ih := occ_go x c hi limit hx L st hp'.2 (fun i hi' => hf i (List.mem_cons_of_mem _ hi'))
        refine Eq.trans ih ?_
        have e : limit - st.fst.size = 0 := by omega
        rw [e, List.take_zero, List.take_zero]
    · have hc' : ¬ (a + (⟨#[c]⟩ : Str).length ≤ x.length ∧ Builtin.Str.subAt x ⟨#[c]⟩ a = true) := fun h => hc ((StrLaws.subAt_one x c a).mp h)
      rw [← hx] at hc'
      rw [if_neg (fun h => hc' ⟨h.1.2, h.2⟩)]
      have ih := occ_go x c hi limit hx L st hp'.2 (fun i hi' => hf i (List.mem_cons_of_mem _ hi'))
      refine Eq.trans ih ?_
      rw [List.filter_cons, if_neg (by simpa using hc)]
theorem occ_one (l : List Nat) (c limit : Nat) : Builtin.Str.occurrences (tx l) (tx [c]) 0 (tx l).length limit = (idxs c l).take limit := by
  rw [StrLaws.occ_eq]
  have := occ_go (tx l) c (tx l).length limit rfl (List.range' 0 ((tx l).length + 1 - 0)) (#[], 0) List.pairwise_lt_range' (fun _ _ => Nat.zero_le _)
  refine Eq.trans this ?_
  rw [tx_len]
  simp [idxs, List.range_eq_range']
theorem idxs_length (c : Nat) (l : List Nat) : (idxs c l).length = l.count c := by
  unfold idxs
  rw [List.range_succ, List.filter_append]
  have h0 : List.filter (fun i => l[i]? == some c) [l.length] = [] := by simp
  rw [h0, List.append_nil]
  induction l with
  | nil => rfl
  | cons a l ih =>
    rw [List.length_cons, List.range_succ_eq_map, List.filter_cons, List.filter_map, List.count_cons]
    have e : (List.filter ((fun i => (a :: l)[i]? == some c) ∘ Nat.succ) (List.range l.length)).length = l.count c := by
      rw [← ih (by simp)]
      congr 1
    by_cases h : a = c
    · rw [if_pos (by simp [h]), List.length_cons, List.length_map, e]; simp [h]
    · rw [if_neg (by simp [h]), List.length_map, e]; simp [h]
noncomputable def dints (ns : List Int) : List D := ns.map .int
noncomputable def dstrs (ls : List (List Nat)) : List D := ls.map .str
theorem ints_are {X : List Addr} {h : Heap} : ∀ {ns : List Int} {vs : List Value}, RepAll X h vs (dints ns) → IntsAre vs ns
  | [], _, .nil => .nil
  | n :: ns, _, .cons r ra => by cases r; exact .cons n _ (ints_are ra)
theorem ints_rep {X : List Addr} {h : Heap} : ∀ {ns : List Int} {vs : List Value}, IntsAre vs ns → RepAll X h vs (dints ns)
  | _, _, .nil => .nil
  | _, _, .cons n t r => .cons (.int n t) (ints_rep r)
theorem strs_are {X : List Addr} {h : Heap} : ∀ {ls : List (List Nat)} {vs : List Value}, RepAll X h vs (dstrs ls) → ∃ ps : List (Str × Tok), vs = strValues ps ∧ ps.map (·.1) = ls.map tx
  | [], _, .nil => ⟨[], rfl, rfl⟩
  | l :: ls, _, .cons r ra => by
    cases r
    obtain ⟨ps, rfl, e⟩ := strs_are ra
    exact ⟨(tx l, _) :: ps, rfl, by simp [e]⟩
noncomputable def joinL (sep : List Nat) : List (List Nat) → List Nat
  | [] => []
  | p :: ps => p ++ ps.flatMap fun q => sep ++ q
theorem glued_go (sep : List Nat) : ∀ (ps : List (List Nat)) (acc : List Nat), (ps.map tx).foldl (fun (acc : Array Nat) (p : Str) => acc ++ (tx sep).cps ++ p.cps) acc.toArray = (acc ++ ps.flatMap fun q => sep ++ q).toArray
  | [], acc => by simp
  | p :: ps, acc => by
    rw [List.map_cons, List.foldl_cons]
    have e : acc.toArray ++ (tx sep).cps ++ (tx p).cps = (acc ++ (sep ++ p)).toArray := by simp
    rw [e, glued_go sep ps]
    simp
theorem join_tx (sep : List Nat) (ps : List (List Nat)) : Txt.join (tx sep) (ps.map tx) = tx (joinL sep ps) := by
  cases ps with
  | nil => rfl
  | cons p ps =>
    show Builtin.Str.glued _ _ = _
    unfold Builtin.Str.glued
    rw [List.map_cons, List.drop_succ_cons, List.drop_zero, List.headD_cons, glued_go]
    rfl
theorem fold_len (sep : Str) : ∀ (ps : List (List Nat)) (n : Nat), (ps.map tx).foldl (fun x1 x2 => x1 + x2.length + sep.length) n = n + (ps.map fun p => p.length + sep.length).sum
  | [], n => by simp
  | p :: ps, n => by
    rw [List.map_cons, List.foldl_cons, fold_len sep ps, List.map_cons, List.sum_cons, tx_len]; omega
theorem join_ok (sep : List Nat) (ps : List (List Nat)) (h : (ps.map fun p => p.length + sep.length).sum ≤ sizeLine) : JoinOk (tx sep) (ps.map tx) = true := by
  unfold JoinOk Builtin.Str.tooLong
  rw [List.foldl_toArray', fold_len] <;> try rfl
  simp only [Nat.zero_add, tx_len]
  simp; omega
theorem RepAll.one {X : List Addr} {h : Heap} {vs : List Value} {d : D} (r : RepAll X h vs [d]) : ∃ v, vs = [v] ∧ Rep X h v d := by
  cases r with | cons r ra =>
  cases ra
  exact ⟨_, rfl, r⟩
theorem RepAll.two {X : List Addr} {h : Heap} {vs : List Value} {d d' : D} (r : RepAll X h vs [d, d']) : ∃ v v', vs = [v, v'] ∧ Rep X h v d ∧ Rep X h v' d' := by
  cases r with | cons r ra =>
  obtain ⟨v', rfl, r'⟩ := ra.one
  exact ⟨_, _, rfl, r, r'⟩
theorem RepAll.three {X : List Addr} {h : Heap} {vs : List Value} {d d' d'' : D} (r : RepAll X h vs [d, d', d'']) : ∃ v v' v'', vs = [v, v', v''] ∧ Rep X h v d ∧ Rep X h v' d' ∧ Rep X h v'' d'' := by
  cases r with | cons r ra =>
  obtain ⟨v', v'', rfl, r', r''⟩ := ra.two
  exact ⟨_, _, _, rfl, r, r', r''⟩
section
variable {G : Gd} {n : Nat}
theorem fn_len_str {l : List Nat} (h : l.length < 2 ^ 63) : FnIs G n (.builtin "len") [.str l] (.int l.length) := .mk fun X A s E vs R hb hX ra => by
  obtain ⟨_, rfl, r⟩ := ra.one
  cases r
  refine PyProof.Rows.len_str (by rw [tx_len]; omega) ?_
  rw [tx_len]; exact ⟨.int _ _, .toks _ _⟩
theorem fn_len_list {ds : List D} (h : ds.length < 2 ^ 63) : FnIs G n (.builtin "len") [.list ds] (.int ds.length) := .mk fun X A s E vs R hb hX ra => by
  obtain ⟨_, rfl, r⟩ := ra.one
  cases r with | list hl hf ra =>
  refine PyProof.Rows.len_list hl.isList (by rw [List.size_toArray, ra.length]; omega) ?_
  rw [List.size_toArray, ra.length]; exact ⟨.int _ _, .toks _ _⟩
theorem fn_range1 {m : Int} : FnIs G n (.type "range") [.int m] (.rng 0 m) := .mk fun X A s E vs R hb hX ra => by
  obtain ⟨_, rfl, r⟩ := ra.one
  cases r
  exact call_range_1 ⟨.rng (Heap.get?_push_size _ rfl) hX.new, .push _ _ _⟩
theorem fn_range2 {a b : Int} : FnIs G n (.type "range") [.int a, .int b] (.rng a b) := .mk fun X A s E vs R hb hX ra => by
  obtain ⟨_, _, rfl, r, r'⟩ := ra.two
  cases r; cases r'
  exact call_range_2 ⟨.rng (Heap.get?_push_size _ rfl) hX.new, .push _ _ _⟩
theorem fn_join {sep : List Nat} {ps : List (List Nat)} (h : (ps.map fun p => p.length + sep.length).sum ≤ sizeLine) : FnIs G n (.builtin "str.join") [.str sep, .list (dstrs ps)] (.str (joinL sep ps)) := .mk fun X A s E vs R hb hX ra => by
  obtain ⟨_, _, rfl, r, r'⟩ := ra.two
  cases r
  cases r' with | list hl hf ra =>
  obtain ⟨qs, rfl, e⟩ := strs_are ra
  refine SC.join (texts := ps.map tx) hl.isList e (join_ok sep ps h) fun t' k => ?_
  rw [join_tx]; exact ⟨.str _ _, .toks _ _⟩
theorem fn_count {l : List Nat} {c : Nat} : FnIs G n (.builtin "str.count") [.str l, .str [c]] (.int (l.count c)) := .mk fun X A s E vs R hb hX ra => by
  obtain ⟨_, _, rfl, r, r'⟩ := ra.two
  cases r; cases r'
  refine SC.count ?_
  have : Txt.count (tx l) (tx [c]) = (l.count c : Nat) := by
    unfold Txt.count
    rw [occ_one, List.length_take, idxs_length, tx_len]
    have := List.count_le_length (a := c) (l := l)
    omega
  rw [this]; exact ⟨.int _ _, .toks _ _⟩
theorem fn_index {l : List Nat} {c i : Nat} {r : List Nat} (h : idxs c l = i :: r) : FnIs G n (.builtin "str.index") [.str l, .str [c]] (.int i) := .mk fun X A s E vs R hb hX ra => by
  obtain ⟨_, _, rfl, r, r'⟩ := ra.two
  cases r; cases r'
  exact SC.index (i := i) (rest := []) (by rw [occ_one, h]; rfl) ⟨.int _ _, .toks _ _⟩
theorem fn_replace_none {l : List Nat} {c : Nat} {z : List Nat} (h : c ∉ l) : FnIs G n (.builtin "str.replace") [.str l, .str [c], .str z] (.str l) := .mk fun X A s E vs R hb hX ra => by
  obtain ⟨_, _, _, rfl, r, r', r''⟩ := ra.three
  cases r with | str t =>
  cases r' with | str u =>
  cases r'' with | str v =>
  have h0 : Builtin.Str.occurrences (tx l) (tx [c]) 0 (tx l).length ((tx l).length + 1) = [] := by
    rw [occ_one]
    have : (idxs c l) = [] := List.length_eq_zero_iff.mp (by rw [idxs_length]; exact List.count_eq_zero.mpr h)
    rw [this]; rfl
  have hg := gives_str_replace (tx l) (tx [c]) (tx z) t u v (fun q => by rw [h0] at q; cases q)
  rw [h0] at hg
  exact call_gives F.slot_str_replace (typeIs_str _ _ _) F.entry_str_replace (F.args_str_replace_3 _ _ _) hg ⟨.str _ _, .refl _⟩
theorem fn_sum {ns : List Int} : FnIs G n (.builtin "sum") [.list (dints ns)] (.int ns.sum) := .mk fun X A s E vs R hb hX ra => by
  obtain ⟨_, rfl, r⟩ := ra.one
  cases r with | list hl hf ra =>
  have hi := ints_are ra
  obtain ⟨xs, hx⟩ := hi.allInts.items
  have hl' : s.heap.IsList _ (intItems xs) := hx ▸ hl.isList
  refine sum_intListG R.hd hl' fun h' tk t' hk => ?_
  have e1 : ns = xs.toList.map (·.1) := by
    rw [← nums_intItems, ← hx]
    exact hi.numsOf.symm
  have e2 : preSum (numAt xs) xs.size = ns.sum := by
    rw [preSum_eq, List.take_of_length_le (by simp), e1]
  rw [e2]; exact ⟨.int _ _, .of hk⟩
theorem fn_int_int {i : Int} : FnIs G n (.type "int") [.int i] (.int i) := .mk fun X A s E vs R hb hX ra => by
  obtain ⟨_, rfl, r⟩ := ra.one
  cases r
  exact call_int_int ⟨.int _ _, .refl _⟩
theorem fn_int_str {l : List Nat} {i : Int} (h : PySem.intText? (tx l) = some i) (hl : l.length ≤ 640) : FnIs G n (.type "int") [.str l] (.int i) := .mk fun X A s E vs R hb hX ra => by
  obtain ⟨_, rfl, r⟩ := ra.one
  cases r
  exact KIN.call_text h (by rw [tx_len]; exact hl) ⟨.int _ _, .toks _ _⟩
theorem fn_str_int {i : Int} {l : List Nat} (h : Str.ofString (toString i) = tx l) (hi : i.natAbs.log2 < 1920) : FnIs G n (.type "str") [.int i] (.str l) := .mk fun X A s E vs R hb hX ra => by
  obtain ⟨_, rfl, r⟩ := ra.one
  cases r
  refine P.str_of_int hi ?_
  rw [h]; exact ⟨.str _ _, .toks _ _⟩
theorem fn_bytes {ns : List Int} (h : ∀ m ∈ ns, 0 ≤ m ∧ m < 256) (hl : ns.length ≤ sizeLine) : FnIs G n (.type "bytes") [.list (dints ns)] (.bytes (ns.map fun m => m.toNat.toUInt8)) := .mk fun X A s E vs R hb hX ra => by
  obtain ⟨_, rfl, r⟩ := ra.one
  cases r with | list hl' hf ra =>
  have hi := ints_are ra
  exact call_bytes_ints hl'.isList hi h (by rw [hi.length]; exact hl) R.hd fun h' t k hk => ⟨.bytes _ _, .of hk⟩
end
end
section
theorem none_at {h : Heap} {a : Addr} (k : h.objs.size ≤ a) : h.get? a = none := by
  cases e : h.get? a with
  | none => rfl
  | some o => exact absurd (Heap.lt_size e) (Nat.not_lt.mpr k)
theorem Run.of_walksT {prog : Program} {w : World} {A : Around} {I : Addr} {fp wr : List Addr} {ds : List D} {Pt : Nat → Array Value → Prop} {St : Nat → Heap → Prop} {Mid : Nat → Addr → Heap → Prop} {n : Nat} {St' : List Addr → Heap → Prop} {elts : List Expr} {k : Nat} {tp : Pos}
    (W : WalksT prog w A I fp wr n Pt St Mid) (hn : n = ds.length)
    (hT : ∀ i h, St i h → ∀ b ∈ wr, ∃ o, h.get? b = some o)
    (hmono : ∀ X h h', St' X h → (∀ b ∈ fp, ∀ o, h.get? b = some o → h'.get? b = some o) → Same X h h' → St' X h')
    (hlift : ∀ X h a, St' X h → h.get? a = none → St' (a :: X) h)
    (hrep : ∀ X i d vals h, ds[i]? = some d → Pt i vals → St' X h → ∃ es, d = .tup es ∧ RepAll X h vals.toList es)
    (hSt' : ∀ X h h', (∀ b ∈ wr, b ∈ X) → St' X h → (∀ b o, b ∉ wr → h.get? b = some o → h'.get? b = some o) → St' X h') :
    Run prog w A (.Tuple elts k tp) (.ref I) fp wr ds (fun X i h => St i h ∧ St' X h) where
  sub := W.sub
  frame := fun X i h h' st hk hs => ⟨W.frame i h h' st.1 hk, hmono X h h' st.2 hk hs⟩
  lift := fun X i h a st ha => ⟨st.1, hlift X h a st.2 ha⟩
  item := fun X i d s Q E hw hd st hL hQ => by
    have hlt : i < n := by rw [hn]; exact (List.getElem?_eq_some_iff.mp hd).1
    refine W.item i s _ _ hlt st.1 fun T vals h' tk hP hTl hTup hMid hk => ⟨.ref T, rfl, ?_⟩
    have s1 := hSt' X _ _ hw st.2 hk
    refine W.go elts k tp i T _ _ _ hMid fun h'' st'' hk'' => ?_
    have s2 := hSt' X _ _ hw s1 hk''
    obtain ⟨es, rfl, ra⟩ := hrep X i d vals h'' hd hP s2
    have hTX : T ∉ X := fun q => by obtain ⟨o, e⟩ := hL T q; exact absurd (Heap.lt_size e) (Nat.not_lt.mpr hTl)
    obtain ⟨oT, hoT, hcT, kT, hdT⟩ := hTup
    have hTup' : IsTup h'' T vals.toList.toArray := ⟨oT, hk'' T oT (W.apart i T _ hMid) hoT, hcT, kT, by rw [hdT]⟩
    exact hQ (.ref T) h'' tk (.tup hTup' hTX ra) ⟨st'', s2⟩ (fun b o hb e => hk'' b o hb (hk b o hb e)) (hT _ _ st'')
  done := fun X s Q E st hQ => by
    have e : St n s.heap := hn ▸ st.1
    exact W.done s _ _ e hQ
  self := fun X i s Q E st h => W.self i s Q E st.1 h
structure MkIter (T : String) (args : List D) (target : Expr) (ds : List D) : Prop where
  go : ∀ (prog : Program) (w : World) (X : List Addr) (A : Around) (s : Shared) (Q : Value → Shared → Prop) (E : Value → Shared → Prop) (vs : List Value), A.handled = none → Live X s.heap → RepAll X s.heap vs args →
    (∀ it fp wr St h' tk, (∀ A' : Around, A'.handled = none → Run prog w A' target it fp wr ds St) → St (wr ++ X) 0 h' → (∀ b o, s.heap.get? b = some o → h'.get? b = some o) →
      (∀ b ∈ wr, s.heap.get? b = none ∧ ∃ o, h'.get? b = some o) → (∀ b ∈ fp, b ∈ wr ∨ (b ∉ X ∧ ∃ o, h'.get? b = some o ∧ look o)) → Q it { s with heap := h', toks := tk }) →
    wpAny (model prog w) A (call (.type T) vs) (fun x s₁ => wpAny (model prog w) A (pyIter x) Q E s₁) E s
section
variable {G : Gd} {n : Nat} {env : Env} {ρ : Loc} {ow : Own}
theorem src_mk {target fe e : Expr} {es : List Expr} {pos : Pos} {T : String} {args ds : List D} (hattr : notAttr fe = true) (hs : noStar (e :: es) = true) (hf : Ev G n env ρ ow fe (.raw (.type T))) (ha : EvAll G n env ρ ow (e :: es) args) (h : MkIter T args target ds) :
    Src G n env ρ ow target (.Call fe (e :: es) [] pos) ds := .mk fun X A s Q E R F hQ => by
  refine Call_ (wpAny_mono (hf.go X A s E R F) (fun v s₁ q => ?_) fun _ _ x => x) (call_eq hattr)
  obtain ⟨q, g⟩ := q
  cases q
  have F₁ := F.keeps g
  refine callWith_type1 (wpAny_mono (ha.go pos X A s₁ E R F₁) (fun vs s₂ q₂ => ?_) fun _ _ x => x) (starEach_cons hs) (backTo_any (noStar_tail hs))
  have g₂ := g.trans q₂.2
  refine h.go _ _ X A s₂ Q E _ R.hd (F.keeps g₂).live q₂.1 fun it fp wr St h' tk hR h0 hk hw hf => ?_
  refine hQ it fp wr St _ hR h0 (g₂.trans (.of hk)) (fun b hb => ⟨?_, (hw b hb).2⟩) hf
  cases e : s.heap.get? b with
  | none => rfl
  | some o => have := (hw b hb).1; rw [g₂.heap b o e] at this; cases this
end
noncomputable def numbered (ds : List D) : List D := ds.zipIdx.map fun p => .tup [.int p.2, p.1]
theorem numbered_get {ds : List D} {i : Nat} {d : D} (h : (numbered ds)[i]? = some d) : ∃ d', ds[i]? = some d' ∧ d = .tup [.int i, d'] := by
  unfold numbered at h
  rw [List.getElem?_map, List.getElem?_zipIdx] at h
  cases e : ds[i]? with
  | none => rw [e] at h; cases h
  | some d' => rw [e] at h; simp at h; exact ⟨d', rfl, h.symm⟩
theorem numbered_length (ds : List D) : (numbered ds).length = ds.length := by simp [numbered]
theorem mk_enum_list {elts : List Expr} {k : Nat} {tp : Pos} {ds : List D} : MkIter "enumerate" [.list ds] (.Tuple elts k tp) (numbered ds) := .mk fun prog w X A s Q E vs hh hX ra hQ => by
  obtain ⟨_, rfl, r⟩ := ra.one
  cases r with | @list l vs hl hf rb =>
  obtain ⟨nn, hol⟩ := id hl
  refine call_enumerate_list hl.isList fun h' he hit hsz hk => wpAny_pyIter_enum he ?_
  have hll : l < s.heap.objs.size := Heap.lt_size hol
  have hnew : ∀ a, s.heap.objs.size ≤ a → s.heap.get? a = none := fun a h => none_at h
  refine hQ _ ((s.heap.objs.size + 1) :: [s.heap.objs.size, l]) [s.heap.objs.size + 1, s.heap.objs.size] (fun X i h => ((∃ old, IsEnum h (s.heap.objs.size + 1) s.heap.objs.size i old) ∧ (h.IsListIter s.heap.objs.size l i ∧ h.IsList l vs.toArray)) ∧ (PL h l vs ∧ RepAll X h vs ds)) h' s.toks (fun A' hA' => ?_) ?_ hk ?_ ?_
  · refine Run.of_walksT (St' := fun X h => PL h l vs ∧ RepAll X h vs ds) (WalksT.enumerateD (Draws.list (A := A'.in1) hA' s.heap.objs.size l (Nat.ne_of_lt hll) vs.toArray) (s.heap.objs.size + 1) (Nat.succ_ne_self _) (fun q => by
      rcases List.mem_cons.mp q with q | q
      · exact Nat.succ_ne_self _ q
      · exact Nat.lt_irrefl _ (Nat.lt_trans (Nat.lt_succ_self _) ((List.mem_singleton.mp q).symm ▸ hll))) (List.mem_cons_self ..)) ?_ ?_ ?_ ?_ ?_ ?_
    · rw [List.size_toArray, rb.length, numbered_length]
    · intro i h st b hb
      rcases List.mem_cons.mp hb with rfl | hb
      · obtain ⟨old, e⟩ := st.1; exact ⟨_, e⟩
      · rw [List.mem_singleton.mp hb]; obtain ⟨o, e, _⟩ := st.2.1; exact ⟨o, e⟩
    · exact fun X h h' st hk hs => ⟨st.1.at fun o e => hk l (by simp) o e, st.2.mono hs⟩
    · exact fun X h a st ha => ⟨st.1, st.2.new ha⟩
    · intro X i d vals h hd hP st
      obtain ⟨d', hd', rfl⟩ := numbered_get hd
      obtain ⟨t, x, hx, rfl⟩ := hP
      obtain ⟨v', hv', r'⟩ := st.2.get hd'
      have : vs[i]? = some x := by simpa using hx
      rw [this] at hv'; cases hv'
      exact ⟨_, rfl, .cons (.int _ _) (.cons r' .nil)⟩
    · intro X h h' hI st hk
      have hlw : l ∉ [s.heap.objs.size + 1, s.heap.objs.size] := fun q => by
        rcases List.mem_cons.mp q with q | q
        · exact Nat.lt_irrefl _ (Nat.lt_trans (Nat.lt_succ_self _) (q ▸ hll))
        · exact Nat.lt_irrefl _ ((List.mem_singleton.mp q) ▸ hll)
      exact ⟨st.1.at fun o e => hk l o hlw e, st.2.mono fun b o hb _ e => hk b o (fun q => hb (hI b q)) e⟩
  · refine ⟨⟨⟨_, he⟩, hit, hl.isList.at fun o e => hk l o e⟩, hl.at fun o e => hk l o e, ?_⟩
    have r1 := (rb.new (a := s.heap.objs.size) (hnew _ (Nat.le_refl _))).new (a := s.heap.objs.size + 1) (hnew _ (by omega))
    exact r1.keeps hk
  · intro b hb
    rcases List.mem_cons.mp hb with rfl | hb
    · exact ⟨hnew _ (by omega), _, he⟩
    · rw [List.mem_singleton.mp hb]; obtain ⟨o, e, _⟩ := hit; exact ⟨hnew _ (Nat.le_refl _), o, e⟩
  · intro b hb
    rcases List.mem_cons.mp hb with rfl | hb
    · exact .inl (by simp)
    · rcases List.mem_cons.mp hb with rfl | hb
      · exact .inl (by simp)
      · rw [List.mem_singleton.mp hb]; exact .inr ⟨hf, _, hk l _ hol, .inl ⟨_, _, rfl⟩⟩
theorem mk_enum_str {elts : List Expr} {k : Nat} {tp : Pos} {l : List Nat} : MkIter "enumerate" [.str l] (.Tuple elts k tp) (numbered (signs l)) := .mk fun prog w X A s Q E vs hh hX ra hQ => by
  obtain ⟨_, rfl, r⟩ := ra.one
  cases r with | str l t =>
  refine call_enumerate_str fun h' he hit hsz hk => wpAny_pyIter_enum he ?_
  have hnew : ∀ a, s.heap.objs.size ≤ a → s.heap.get? a = none := fun a h => none_at h
  refine hQ _ ((s.heap.objs.size + 1) :: [s.heap.objs.size]) [s.heap.objs.size + 1, s.heap.objs.size] (fun X i h => ((∃ old, IsEnum h (s.heap.objs.size + 1) s.heap.objs.size i old) ∧ h.IsStrIter s.heap.objs.size (strIterType (tx l)) (tx l) t i) ∧ True) h' s.toks (fun A' hA' => ?_) ?_ hk ?_ ?_
  · have hw : Draws prog w A'.in1 s.heap.objs.size [s.heap.objs.size] (tx l).cps.size (fun i v => ∃ c u, (tx l).cps[i]? = some c ∧ v = .str ⟨#[c]⟩ u) (fun i h => h.IsStrIter s.heap.objs.size (strIterType (tx l)) (tx l) t i) := by
      unfold strIterType
      split
      · exact Draws.strAscii (A := A'.in1) hA' _ _ _
      · exact Draws.strWide (A := A'.in1) hA' _ _ _
    refine Run.of_walksT (St' := fun X h => True) (WalksT.enumerateD hw (s.heap.objs.size + 1) (Nat.succ_ne_self _) (fun q => Nat.succ_ne_self _ (List.mem_singleton.mp q)) (List.mem_cons_self ..)) ?_ ?_ ?_ ?_ ?_ ?_
    · simp [numbered_length, signs]
    · intro i h st b hb
      rcases List.mem_cons.mp hb with rfl | hb
      · obtain ⟨old, e⟩ := st.1; exact ⟨_, e⟩
      · rw [List.mem_singleton.mp hb]; obtain ⟨o, e, _⟩ := st.2; exact ⟨o, e⟩
    · exact fun _ _ _ _ _ _ => trivial
    · exact fun _ _ _ _ _ => trivial
    · intro X i d vals h hd hP st
      obtain ⟨d', hd', rfl⟩ := numbered_get hd
      obtain ⟨tt, x, ⟨c, u, hc, rfl⟩, rfl⟩ := hP
      have hc' : l[i]? = some c := by simpa using hc
      simp only [signs, List.getElem?_map, hc', Option.map_some, Option.some.injEq] at hd'
      subst hd'
      exact ⟨_, rfl, .cons (.int _ _) (.cons (.str [c] u) .nil)⟩
    · exact fun _ _ _ _ _ _ => trivial
  · exact ⟨⟨⟨_, he⟩, hit⟩, trivial⟩
  · intro b hb
    rcases List.mem_cons.mp hb with rfl | hb
    · exact ⟨hnew _ (by omega), _, he⟩
    · rw [List.mem_singleton.mp hb]; obtain ⟨o, e, _⟩ := hit; exact ⟨hnew _ (Nat.le_refl _), o, e⟩
  · intro b hb
    rcases List.mem_cons.mp hb with rfl | hb
    · exact .inl (by simp)
    · rw [List.mem_singleton.mp hb]; exact .inl (by simp)
noncomputable def zipped (as bs : List D) : List D := (as.zip bs).map fun p => .tup [p.1, p.2]
theorem zipped_get {as bs : List D} {i : Nat} {d : D} (h : (zipped as bs)[i]? = some d) : ∃ a b, as[i]? = some a ∧ bs[i]? = some b ∧ d = .tup [a, b] := by
  unfold zipped at h
  rw [List.getElem?_map] at h
  cases e : (as.zip bs)[i]? with
  | none => rw [e] at h; cases h
  | some p => rw [e] at h; simp at h; have := List.getElem?_zip_eq_some.mp e; exact ⟨p.1, p.2, this.1, this.2, h.symm⟩
theorem zipped_length (as bs : List D) : (zipped as bs).length = min as.length bs.length := by simp [zipped]
theorem mk_zip_lists {elts : List Expr} {k : Nat} {tp : Pos} {as bs : List D} : MkIter "zip" [.list as, .list bs] (.Tuple elts k tp) (zipped as bs) := .mk fun prog w X A s Q E vs hh hX ra hQ => by
  obtain ⟨_, _, rfl, r, r'⟩ := ra.two
  cases r with | @list l us hl hf rb =>
  cases r' with | @list l' us' hl' hf' rb' =>
  obtain ⟨nn, hol⟩ := id hl
  obtain ⟨nn', hol'⟩ := id hl'
  generalize hN : s.heap.objs.size = N at *
  have hll : l < N := hN ▸ Heap.lt_size hol
  have hll' : l' < N := hN ▸ Heap.lt_size hol'
  have hnew : ∀ a, N ≤ a → s.heap.get? a = none := fun a h => none_at (hN ▸ h)
  refine call_zip_2 hl.isList hl'.isList fun h' hz hTI hTO hi1 hi2 hsz hk => wpAny_pyIter_zip hz ?_
  rw [hN] at hz hTI hTO hi1 hi2 ⊢
  have ap : ∀ a : Nat, a < N → ∀ c, N ≤ c → a ≠ c := fun a h1 c h2 => Nat.ne_of_lt (Nat.lt_of_lt_of_le h1 h2)
  have ZA : ZipApart (N + 4) (N + 2) (N + 3) N (N + 1) l l' := by
    constructor <;> first | exact ap _ hll _ (by omega) | exact ap _ hll' _ (by omega) | (intro q; have : (N : Nat) = N := rfl; simp at q)
  refine hQ _ [N + 4, N + 2, N + 3, N, N + 1, l, l'] [N + 4, N + 3, N, N + 1] (fun X i h => (IsZip h (N + 4) (N + 2) (N + 3) .none ∧ IsPair h (N + 2) (.ref N) (.ref (N + 1)) ∧ (∃ a b, IsPair h (N + 3) a b) ∧ h.IsListIter N l i ∧ h.IsListIter (N + 1) l' i ∧ h.IsList l us.toArray ∧ h.IsList l' us'.toArray) ∧ (PL h l us ∧ RepAll X h us as) ∧ (PL h l' us' ∧ RepAll X h us' bs)) h' s.toks (fun A' hA' => ?_) ?_ hk ?_ ?_
  · refine Run.of_walksT (St' := fun X h => (PL h l us ∧ RepAll X h us as) ∧ (PL h l' us' ∧ RepAll X h us' bs)) (WalksT.zip2 hA' (N + 4) (N + 2) (N + 3) N (N + 1) l l' ZA us.toArray us'.toArray) ?_ ?_ ?_ ?_ ?_ ?_
    · rw [List.size_toArray, List.size_toArray, rb.length, rb'.length, zipped_length]
    · intro i h st b hb
      obtain ⟨e1, e2, ⟨a, b', e3⟩, ⟨o4, e4, _⟩, ⟨o5, e5, _⟩, _⟩ := st
      simp only [List.mem_cons, List.not_mem_nil, or_false] at hb
      rcases hb with rfl | rfl | rfl | rfl
      · exact ⟨_, e1⟩
      · exact ⟨_, e3⟩
      · exact ⟨_, e4⟩
      · exact ⟨_, e5⟩
    · exact fun X h h' st hk hs => ⟨⟨st.1.1.at fun o e => hk l (by simp) o e, st.1.2.mono hs⟩, ⟨st.2.1.at fun o e => hk l' (by simp) o e, st.2.2.mono hs⟩⟩
    · exact fun X h a st ha => ⟨⟨st.1.1, st.1.2.new ha⟩, ⟨st.2.1, st.2.2.new ha⟩⟩
    · intro X i d vals h hd hP st
      obtain ⟨a, b, ha, hb, rfl⟩ := zipped_get hd
      obtain ⟨x, y, hx, hy, rfl⟩ := hP
      obtain ⟨v, hv, rv⟩ := st.1.2.get ha
      obtain ⟨v', hv', rv'⟩ := st.2.2.get hb
      have e1 : us[i]? = some x := by simpa using hx
      have e2 : us'[i]? = some y := by simpa using hy
      rw [e1] at hv; cases hv
      rw [e2] at hv'; cases hv'
      exact ⟨_, rfl, .cons rv (.cons rv' .nil)⟩
    · intro X h h' hI st hk
      have hlw : ∀ a, a < N → a ∉ [N + 4, N + 3, N, N + 1] := fun a ha q => by
        simp only [List.mem_cons, List.not_mem_nil, or_false] at q
        rcases q with q | q | q | q
        · exact ap a ha _ (by omega) q
        · exact ap a ha _ (by omega) q
        · exact ap a ha _ (by omega) q
        · exact ap a ha _ (by omega) q
      have hs : Same X h h' := fun b o hb _ e => hk b o (fun q => hb (hI b q)) e
      exact ⟨⟨st.1.1.at fun o e => hk l o (hlw l hll) e, st.1.2.mono hs⟩, ⟨st.2.1.at fun o e => hk l' o (hlw l' hll') e, st.2.2.mono hs⟩⟩
  · have lift4 : ∀ {vs : List Value} {ds : List D}, RepAll X s.heap vs ds → RepAll ([N + 4, N + 3, N, N + 1] ++ X) h' vs ds := fun r =>
      ((((r.new (hnew (N + 1) (by omega))).new (hnew N (by omega))).new (hnew (N + 3) (by omega))).new (hnew (N + 4) (by omega))).keeps hk
    exact ⟨⟨hz, hTI, ⟨_, _, hTO⟩, hi1, hi2, hl.isList.at fun o e => hk l o e, hl'.isList.at fun o e => hk l' o e⟩, ⟨hl.at fun o e => hk l o e, lift4 rb⟩, ⟨hl'.at fun o e => hk l' o e, lift4 rb'⟩⟩
  · intro b hb
    obtain ⟨o4, e4, _⟩ := hi1
    obtain ⟨o5, e5, _⟩ := hi2
    simp only [List.mem_cons, List.not_mem_nil, or_false] at hb
    rcases hb with rfl | rfl | rfl | rfl
    · exact ⟨hnew _ (by omega), _, hz⟩
    · exact ⟨hnew _ (by omega), _, hTO⟩
    · exact ⟨hnew _ (by omega), _, e4⟩
    · exact ⟨hnew _ (by omega), _, e5⟩
  · intro b hb
    simp only [List.mem_cons, List.not_mem_nil, or_false] at hb
    rcases hb with rfl | rfl | rfl | rfl | rfl | rfl | rfl
    · exact .inl (by simp)
    · have hq : N + 2 ∉ X := fun q => by
        obtain ⟨o, e⟩ := hX _ q
        rw [hnew _ (by omega)] at e; cases e
      exact .inr ⟨hq, _, hTI, .inl ⟨_, _, rfl⟩⟩
    · exact .inl (by simp)
    · exact .inl (by simp)
    · exact .inl (by simp)
    · exact .inr ⟨hf, _, hk _ _ hol, .inl ⟨_, _, rfl⟩⟩
    · exact .inr ⟨hf', _, hk _ _ hol', .inl ⟨_, _, rfl⟩⟩
end
section
mutual
noncomputable def py : D → PyData
  | .none => .none
  | .bool b => .bool b
  | .int i => .int i
  | .str l => .str (tx l)
  | .list ds => .list (pys ds)
  | .tup ds => .tuple (pys ds)
  | .bytes _ | .raw _ | .bm _ _ | .rng _ _ | .code _ | .fn _ _ | .inst _ _ | .meth _ _ _ => .none
noncomputable def pys : List D → List PyData
  | [] => []
  | d :: ds => py d :: pys ds
end
mutual
noncomputable def pyOk : D → Bool
  | .none | .bool _ | .int _ | .str _ => true
  | .list ds | .tup ds => pysOk ds
  | .bytes _ | .raw _ | .bm _ _ | .rng _ _ | .code _ | .fn _ _ | .inst _ _ | .meth _ _ _ => false
noncomputable def pysOk : List D → Bool
  | [] => true
  | d :: ds => pyOk d && pysOk ds
end
theorem Rep.reads {X : List Addr} {h : Heap} {v : Value} {d : D} (r : Rep X h v d) : pyOk d = true → ∃ as, Reads h v (py d) as :=
  Rep.rec (motive_1 := fun v d _ => pyOk d = true → ∃ as, Reads h v (py d) as) (motive_2 := fun vs ds _ => pysOk ds = true → ∃ as, ReadsAll h vs (pys ds) as)
    (fun _ => ⟨_, Reads.none⟩) (fun b _ => ⟨_, Reads.bool b⟩) (fun i t _ => ⟨_, Reads.int i t⟩) (fun l t _ => ⟨_, Reads.str (tx l) t⟩) (fun _ _ o => nomatch (show false = true from o)) (fun _ o => nomatch (show false = true from o))
    (fun x _ _ ih o => let ⟨as, ra⟩ := ih o; let ⟨_, e⟩ := x; ⟨_, Reads.list e rfl rfl ra⟩)
    (fun x _ _ ih o => let ⟨as, ra⟩ := ih o; let ⟨_, e, hc, _, hd⟩ := x; ⟨_, Reads.tuple e hc hd ra⟩)
    (fun _ _ o => nomatch (show false = true from o)) (fun _ _ o => nomatch (show false = true from o)) (fun _ _ _ _ _ o => nomatch (show false = true from o)) (fun _ _ _ _ _ _ _ o => nomatch (show false = true from o)) (fun _ _ o => nomatch (show false = true from o)) (fun _ _ _ _ o => nomatch (show false = true from o))
    (fun _ => ⟨_, ReadsAll.nil⟩) (fun _ _ i1 i2 o => let o' := Bool.and_eq_true_iff.mp o; let ⟨_, h1⟩ := i1 o'.1; let ⟨_, h2⟩ := i2 o'.2; ⟨_, ReadsAll.cons h1 h2⟩) r
theorem cmp_eq_data {d₁ d₂ : D} {b : Bool} (o₁ : pyOk d₁ = true) (o₂ : pyOk d₂ = true) (l₁ : (py d₁).layable0 = true) (l₂ : (py d₂).layable0 = true) (hb : PyData.eqv (py d₁) (py d₂) = b) : CmpIs .Eq d₁ d₂ b := .mk <| fun prog w X A s E v₁ v₂ hu r₁ r₂ => by
  obtain ⟨as, h1⟩ := r₁.reads o₁
  obtain ⟨bs, h2⟩ := r₂.reads o₂
  exact eq_dataS h1 h2 l₁ l₂ hu ⟨by rw [hb], .refl _⟩
theorem cmp_ne_data {d₁ d₂ : D} {b : Bool} (o₁ : pyOk d₁ = true) (o₂ : pyOk d₂ = true) (l₁ : (py d₁).layable0 = true) (l₂ : (py d₂).layable0 = true) (hb : PyData.eqv (py d₁) (py d₂) = b) : CmpIs .NotEq d₁ d₂ (!b) := .mk <| fun prog w X A s E v₁ v₂ hu r₁ r₂ => by
  obtain ⟨as, h1⟩ := r₁.reads o₁
  obtain ⟨bs, h2⟩ := r₂.reads o₂
  exact ne_dataS h1 h2 l₁ l₂ hu ⟨by rw [hb], .refl _⟩
theorem cmp_eq_bytes {a b : List UInt8} : CmpIs .Eq (.bytes a) (.bytes b) (a == b) := .mk <| fun prog w X A s E v₁ v₂ hu r₁ r₂ => by
  cases r₁; cases r₂
  exact eq_bytes ⟨by simp, .refl _⟩
theorem cmp_is_type {a b : String} : CmpIs .Is (.raw (.type a)) (.raw (.type b)) (a == b) := .mk <| fun prog w X A s E v₁ v₂ _ r₁ r₂ => by
  cases r₁; cases r₂
  refine wpAny_is_plain rfl ⟨?_, .refl _⟩
  congr 1
  by_cases h : a = b
  · subst h; simp
  · rw [beq_eq_false_iff_ne.mpr h, beq_eq_false_iff_ne.mpr (fun q => h (by cases q; rfl))]
noncomputable def isNone : D → Bool | .none => true | _ => false
noncomputable def toldNone : D → Bool | .raw _ => false | _ => true
theorem cmp_is_none {d : D} (h : toldNone d = true) : CmpIs .Is d .none (isNone d) := .mk <| fun prog w X A s E v₁ v₂ _ r₁ r₂ => by
  cases r₂
  refine PySem.is_none ⟨?_, .refl _⟩
  cases r₁ <;> first | rfl | (simp [toldNone] at h; done)
theorem cmp_isnot_none {d : D} (h : toldNone d = true) : CmpIs .IsNot d .none (!isNone d) := .mk <| fun prog w X A s E v₁ v₂ _ r₁ r₂ => by
  cases r₂
  refine PySem.isNot_none ⟨?_, .refl _⟩
  cases r₁ <;> first | rfl | (simp [toldNone] at h; done)
theorem cmp_is_ref {a : Addr} : CmpIs .Is (own a) (own a) true := .mk <| fun prog w X A s E v₁ v₂ _ r₁ r₂ => by
  cases r₁; cases r₂; exact wpAny_is_ref_self ⟨rfl, .refl _⟩
theorem cmp_isnot_ref {a : Addr} : CmpIs .IsNot (own a) (own a) false := .mk <| fun prog w X A s E v₁ v₂ _ r₁ r₂ => by
  cases r₁; cases r₂; exact wpAny_isNot_ref_self ⟨rfl, .refl _⟩
theorem cmp_isnot_str {l : List Nat} {a : Addr} : CmpIs .IsNot (.str l) (own a) true := .mk <| fun prog w X A s E v₁ v₂ _ r₁ r₂ => by
  cases r₁; cases r₂; exact wpAny_isNot_other rfl (by simp) ⟨rfl, .refl _⟩
theorem cmp_in_str {l : List Nat} {c : Nat} : CmpIs .In (.str [c]) (.str l) (decide (c ∈ l)) := .mk <| fun prog w X A s E v₁ v₂ _ r₁ r₂ => by
  cases r₁; cases r₂
  refine P.in_str ⟨?_, .refl _⟩
  congr 1
  exact (StrLaws.found_one (tx l) c)
theorem strsAre {X : List Addr} {h : Heap} : ∀ {ls : List (List Nat)} {vs : List Value}, RepAll X h vs (dstrs ls) → StrsAre vs (ls.map tx)
  | [], _, .nil => .nil
  | l :: ls, _, .cons r ra => by cases r; exact .cons _ _ (strsAre ra)
theorem any_tx (ls : List (List Nat)) (l : List Nat) : (ls.map tx).any (· == tx l) = ls.contains l := by
  induction ls with
  | nil => rfl
  | cons a ls ih =>
    rw [List.map_cons, List.any_cons, ih, List.contains_cons]
    congr 1
    rw [Bool.eq_iff_iff, beq_iff_eq, beq_iff_eq]
    constructor
    · intro h; injection h with h; exact (Array.toList_inj.mpr h).symm
    · intro h; rw [h]
theorem cmp_in_tup {l : List Nat} {ls : List (List Nat)} : CmpIs .In (.str l) (.tup (dstrs ls)) (ls.contains l) := .mk <| fun prog w X A s E v₁ v₂ _ r₁ r₂ => by
  cases r₁
  cases r₂ with | tup ht hf ra =>
  refine in_tuple_strs ht (ys := ls.map tx) (by simpa using strsAre ra) ⟨?_, .refl _⟩
  rw [any_tx]
section
variable {G : Gd} {n : Nat} {env : Env} {ρ : Loc} {ow : Own}
theorem tst_cmp2 {op₁ op₂ : CmpOp} {e₁ e₂ e₃ : Expr} {pos : Pos} {d₁ d₂ d₃ : D} {b₁ b₂ : Bool} (hm : behindInMarks op₂ e₃ = false) (h₁ : Ev G (n + 8) env ρ ow e₁ d₁) (h₂ : Ev G (n + 8) env ρ ow e₂ d₂) (h₃ : Ev G (n + 8) env ρ ow e₃ d₃) (c₁ : CmpIs op₁ d₁ d₂ b₁) (c₂ : CmpIs op₂ d₂ d₃ b₂) :
    Tst G (n + 8) env ρ ow (.Compare e₁ [op₁, op₂] [e₂, e₃] pos) (b₁ && b₂) := .mk <| fun X A s E R F => by
  rw [arm_isTrue_Compare]
  show wpAny _ A (eval e₁ env >>= fun a => testChain pos a [op₁, op₂] [eval e₂ env, markedBehindIn op₂ e₃ (eval e₃ env)]) _ E s
  rw [markedBehindIn_of_false hm]
  refine wpAny_bind (wpAny_mono (h₁.go X A s E R F) (fun v₁ s₁ q₁ => ?_) fun _ _ x => x)
  have F₁ := F.keeps q₁.2
  refine wpAny_bind (wpAny_holding (wpAny_mono (h₂.go X A s₁ E R F₁) (fun v₂ s₂ q₂ => wpAny_bind (wpAny_standAt ?_)) fun _ _ x => x))
  have F₂ := F₁.keeps q₂.2
  refine wpAny_bind (wpAny_holding (wpAny_mono (c₁.go _ _ X A s₂ E v₁ v₂ (by have := R.un; omega) (q₁.1.keeps q₂.2.heap) q₂.1) (fun v s₃ q => ?_) fun _ _ x => x))
  obtain ⟨rfl, g⟩ := q
  have F₃ := F₂.keeps g
  refine wpAny_bind ?_
  refine wpAny_release ?_
  refine wpAny_bind (wpAny_holding (wpAny_truthy_bool ?_))
  have g₀ := (q₁.2.trans q₂.2).trans g
  cases b₁ with
  | false => exact wpAny_pure ⟨rfl, g₀⟩
  | true =>
    rw [if_pos rfl]
    show wpAny _ _ (do
      let rv ← holding [v₂] (eval e₃ env)
      standAt pos
      let c ← operate [v₂, rv] (compareOp op₂ v₂ rv)
      holding [c] (truthy c)) _ _ _
    refine wpAny_bind (wpAny_holding (wpAny_mono (h₃.go X A s₃ E R F₃) (fun v₃ s₄ q₄ => wpAny_bind (wpAny_standAt ?_)) fun _ _ x => x))
    refine wpAny_bind (wpAny_operateT (wpAny_mono (c₂.go _ _ X A s₄ E v₂ v₃ (by have := R.un; omega) ((q₂.1.keeps g.heap).keeps q₄.2.heap) q₄.1) (fun v s₅ q => ?_) fun _ _ x => x))
    obtain ⟨rfl, g₅⟩ := q
    exact wpAny_holding (wpAny_truthy_bool ⟨rfl, (g₀.trans q₄.2).trans g₅⟩)
end
end
section
section
variable {G : Gd} {n : Nat}
theorem fn_sorted {ns ms : List Int} (h64 : ns.length < 64) (hp : ms.Perm ns) (hs : ms.Pairwise (· ≤ ·)) : FnIs G n (.builtin "sorted") [.list (dints ns)] (.list (dints ms)) := .mk fun X A s E vs R hb hX ra => by
  obtain ⟨_, rfl, r⟩ := ra.one
  cases r with | list hl hf rb =>
  have hi := ints_are rb
  refine sorted_ints hl.isList hi (by rw [hi.length]; exact h64) fun out ns' a1 a2 a3 => ?_
  have e : ns' = ms := (a2.trans hp.symm).eq_of_pairwise (fun a b _ _ h1 h2 => Int.le_antisymm h1 h2) a3 hs
  subst e
  obtain ⟨k, he⟩ := sortedAll_at s.heap _ out
  refine ⟨.list (vs := out.toList) ⟨k, ?_⟩ (fun q => ?_) (ints_rep a1), .of fun _ _ => sortedAll_old⟩
  · exact he
  · obtain ⟨o, e⟩ := hX _ q
    exact absurd (Heap.lt_size e) (Nat.not_lt.mpr (Nat.le_succ _))
theorem fn_list_range {a b : Int} (hs : Builtin.Range.small a b 1 = true) (hn : (b - a).toNat ≤ 2 ^ 24) : FnIs G n (.type "list") [.rng a b] (.list (zs a (b - a).toNat)) := .mk fun X A s E vs R hb hX ra => by
  obtain ⟨_, rfl, r⟩ := ra.one
  cases r with | rng hr hf =>
  refine call_list_range R.hd hr hs (rangeSize_nat a b) hn fun h' tk acc' c' hk ho hit => ?_
  refine ⟨.list (vs := acc'.toList) ⟨c', by simpa using ho⟩ hX.new ?_, .of hk⟩
  obtain ⟨h1, h2⟩ := hit
  have key : ∀ (m : Nat) (l : List Value) (k : Nat), l.length = m → (∀ j v, l[j]? = some v → ∃ t, v = Value.int (a + ((k + j : Nat) : Int) * 1) t) → RepAll X h' l ((List.range' k m).map fun (i : Nat) => D.int (a + i)) := by
    intro m
    induction m with
    | zero => intro l k hl _; rw [List.length_eq_zero_iff.mp hl]; exact .nil
    | succ m ih =>
      intro l k hl hP
      cases l with
      | nil => simp at hl
      | cons v l =>
        obtain ⟨t, rfl⟩ := hP 0 v rfl
        rw [List.range'_succ, List.map_cons]
        refine .cons ?_ (ih l (k + 1) (by simpa using hl) fun j v e => ?_)
        · have : a + ((k + 0 : Nat) : Int) * 1 = a + (k : Int) := by simp
          rw [this]; exact .int _ _
        · obtain ⟨t, e'⟩ := hP (j + 1) v (by simpa using e)
          refine ⟨t, e'.trans ?_⟩
          have : k + (j + 1) = k + 1 + j := by omega
          rw [this]
  have := key _ acc'.toList 0 (by simpa using h1) fun j v e => by
    obtain ⟨t, q⟩ := h2 j v (by simpa using e)
    exact ⟨t, by simpa using q⟩
  simpa [zs, List.range_eq_range'] using this
theorem fn_list_index {ls : List (List Nat)} {l : List Nat} {j : Nat} (hj : ls[j]? = some l) (hno : ∀ i, i < j → ls[i]? ≠ some l) (hsm : ls.length < 2 ^ 62) : FnIs G n (.builtin "list.index") [.list (dstrs ls), .str l] (.int j) := .mk fun X A s E vs R hb hX ra => by
  obtain ⟨_, _, rfl, r, r'⟩ := ra.two
  cases r with | @list la vs hl hf rb =>
  cases r' with | str l t =>
  have hsa := strsAre rb
  obtain ⟨nn, ho⟩ := id hl
  have hlen : vs.length = ls.length := by rw [rb.length]; simp [dstrs]
  have hjl : j < ls.length := (List.getElem?_eq_some_iff.mp hj).1
  have at_ : ∀ (i : Nat) (hi : i < vs.length), isStrOf (tx l) vs[i] = (ls[i]? == some l) := fun i hi => by
    have hi' : i < ls.length := by omega
    obtain ⟨tt, e⟩ := hsa.at (j := i) (y := tx ls[i]) (by simp [hi'])
    have : vs[i] = .str (tx ls[i]) tt := by rw [List.getElem?_eq_getElem hi] at e; exact Option.some.inj e
    rw [this]
    show (tx ls[i] == tx l) = _
    rw [List.getElem?_eq_getElem hi', Bool.eq_iff_iff, beq_iff_eq, beq_iff_eq]
    constructor
    · intro h; injection h with h; exact congrArg some (Array.toList_inj.mpr h)
    · intro h; rw [Option.some.inj h]
  refine call_meets PySem.F.slot_list_index ⟨_, ho, rfl⟩ PySem.F.entry_list_index (PySem.F.args_list_index_2 _ _)
    (SeqAt.list_indexAt la vs.toArray nn none #[] (.str (tx l) t) (isStrOf (tx l)) j (by simpa [hlen] using hjl) (by omega) ?_ ?_) ⟨ho, fun y hy => (eq_isStrOf (tx l) t hsa y (by simpa using hy)).at _ _, .int _ _, .toks _ _⟩
  · have := at_ j (by omega)
    simp only [List.getElem_toArray]
    rw [this, hj]; simp
  · intro m hm hmj
    have := at_ m (by simpa using hm)
    simp only [List.getElem_toArray]
    rw [this]
    simpa using hno m hmj
end
structure EvJ (G : Gd) (n : Nat) (env : Env) (ρ : Loc) (ow : Own) (es : List Expr) (ls : List (List Nat)) : Prop where
  go : ∀ (X : List Addr) (A : Around) (s : Shared) (E : Value → Shared → Prop) (out : List Nat), Room n A → Fits G env X ρ ow s → out.length + (ls.map List.length).sum ≤ sizeLine → wpAny (model G.prog G.w) A (joinParts (tx out) (evalEach es env)) (fun v s' => Rep X s'.heap v (.str (out ++ ls.flatten)) ∧ Grow s s') E s
section
variable {G : Gd} {n : Nat} {env : Env} {ρ : Loc} {ow : Own}
theorem evj_nil : EvJ G n env ρ ow [] [] := .mk fun X A s E out R F hsz => by
  refine joinParts_nil ⟨?_, .toks _ _⟩ (by rw [tx_len]; simpa using hsz)
  simpa using Rep.str (X := X) (h := s.heap) out s.toks
theorem evj_cons {e : Expr} {es : List Expr} {l : List Nat} {ls : List (List Nat)} (h : Ev G n env ρ ow e (.str l)) (r : EvJ G n env ρ ow es ls) : EvJ G n env ρ ow (e :: es) (l :: ls) := .mk fun X A s E out R F hsz => by
  simp only [List.map_cons, List.sum_cons] at hsz
  refine joinParts_cons (wpAny_mono (h.go X A s E R F) (fun v s₁ q => ?_) fun _ _ y => y)
  obtain ⟨q, g⟩ := q
  cases q with | str l t =>
  have e : (tx out ++ tx l) = tx (out ++ l) := str_app out l
  refine ⟨by rw [e, tx_len, List.length_append]; omega, ?_⟩
  rw [e]
  refine wpAny_mono (r.go X A s₁ E (out ++ l) R (F.keeps g) (by rw [List.length_append]; omega)) (fun v s₂ q₂ => ⟨?_, g.trans q₂.2⟩) fun _ _ y => y
  simpa using q₂.1
theorem ev_fval {e : Expr} {pos : Pos} {l : List Nat} (h : Ev G n env ρ ow e (.str l)) (hl : l.length ≤ sizeLine) : Ev G n env ρ ow (.FormattedValue e (-1) none pos) (.str l) := .mk fun X A s E R F => by
  refine FormattedValue_plain (wpAny_mono (h.go X A s E R F) (fun v s₁ q => ?_) fun _ _ y => y)
  obtain ⟨q, g⟩ := q
  cases q with | str l t =>
  exact formatField_str (fun t' tk => ⟨.str _ _, g.trans (.toks _ _)⟩) (by rw [tx_len]; exact hl)
theorem ev_fstr {e₁ e₂ : Expr} {es : List Expr} {pos : Pos} {ls : List (List Nat)} (h : EvJ G n env ρ ow (e₁ :: e₂ :: es) ls) (hsz : (ls.map List.length).sum ≤ sizeLine) : Ev G n env ρ ow (.JoinedStr (e₁ :: e₂ :: es) pos) (.str ls.flatten) := .mk fun X A s E R F => by
  refine JoinedStr_many ?_
  have := h.go X A s E [] R F (by simpa using hsz)
  rw [List.nil_append] at this
  exact this
theorem FnIs.le {m : Nat} {f : Value} {ds : List D} {d : D} (h : FnIs G n f ds d) (hm : n ≤ m) : FnIs G m f ds d := .mk fun X A s E vs R => h.go X A s E vs (R.le hm)
end
noncomputable def fnAt (K : Frag) (a : Addr) : FuncData := match K.lookup a with | some ⟨_, _, .func fd, _⟩ => fd | _ => default
noncomputable def isFnAt (K : Frag) (a : Addr) : Bool := match K.lookup a with | some ⟨_, _, .func _, _⟩ => true | _ => false
set_option tactic.hygienic true in
theorem fnAt_of {K : Frag} {a : Addr} (h : isFnAt K a = true) : ∃ oc od osl, K.lookup a = some ⟨oc, od, .func (fnAt K a), osl⟩ := by
  unfold isFnAt at h
  unfold fnAt
  split at h
  · rename_i oc od fd osl e; exact ⟨oc, od, osl, by rw [e]⟩
  · cases h
noncomputable def S (s : String) : List Nat := s.toList.map Char.toNat
theorem ev_lit {G : Gd} {n : Nat} {env : Env} {ρ : Loc} {ow : Own} {s : String} {k : Nat} {pos : Pos} : Ev G n env ρ ow (.Constant (.str (Str.ofString s)) k pos) (.str (S s)) := ev_str (Str.ofString_eq_toList s)
noncomputable def noDup : List Str → Bool
  | [] => true
  | x :: r => !(r.contains x) && noDup r
theorem nodup_of : ∀ {l : List Str}, noDup l = true → l.Nodup
  | [], _ => .nil
  | x :: r, h => by
    simp only [noDup, Bool.and_eq_true] at h
    exact List.nodup_cons.mpr ⟨fun q => by simp [q] at h, nodup_of h.2⟩
theorem fn_K {G : Gd} {n : Nat} {K : Frag} (hK : G.K = K) {f : Addr} {body : List Stmt} (ρ : Loc) {d : D}
    (ho : isFnAt K f = true) (hcd : codeIn K (fnAt K f).code (fnAt K f).qualname = true) (hbody : (fnAt K f).body = .stmts body)
    (hbind : ∀ vs : List Value, vs.length = ρ.length → bindArgs (fnAt K f) ⟨vs, []⟩ = pure ((ρ.map (·.1)).zip vs)) (hclo : (fnAt K f).closure = []) (hnd : noDup (ρ.map (·.1)) = true)
    (hkind : ((ρ.map (·.1)).all fun x => (fnAt K f).scope.names.lookup x == some .local || (fnAt K f).scope.names.lookup x == some .cell) = true)
    (hgl : (fnAt K f).globals = mainGlobals) (hbl : (fnAt K f).builtins = builtinsNs)
    (hco : (fnAt K f).scope.isCoroutine = false) (hgen : (fnAt K f).scope.isGenerator = false) (hk : (fnAt K f).scope.kind = .function)
    (h : ∀ X L, Ex G n (callEnvC (fnAt K f) L f) ρ [] [body] (.fn X d)) : FnIs G (n + 1) (.ref f) (ρ.map (·.2)) d := by
  subst hK
  obtain ⟨oc, od, osl, e⟩ := fnAt_of ho
  refine fn_of e hcd hbody (ns := ρ.map (·.1)) ?_ hclo (nodup_of hnd) (by simp) hkind hgl hbl hco hgen hk ?_
  · intro vs hv; exact hbind vs (by simpa using hv)
  · intro X L
    have : (ρ.map (·.1)).zip (ρ.map (·.2)) = ρ := by
      induction ρ with
      | nil => rfl
      | cons x r ih => simp [List.zip_map']
    rw [this]; exact h X L
theorem lk_here {n : Str} {d : D} {ρ : Loc} : ((n, d) :: ρ).lookup n = some d := by rw [List.lookup_cons, beq_self_eq_true]
theorem lk_next {n m : Str} {d e : D} {ρ : Loc} (h : (n == m) = false) (r : ρ.lookup n = some d) : ((m, e) :: ρ).lookup n = some d := by rw [List.lookup_cons, h]; exact r
theorem flatMap_one {α β : Type} (f : α → β) (l : List α) : (l.flatMap fun d => [f d]) = l.map f := by
  induction l with
  | nil => rfl
  | cons a r ih => rw [List.flatMap_cons, ih]; rfl
section
variable {G : Gd} {n : Nat} {env : Env} {da : Addr} {ρ : Loc}
theorem asgC_name {x : Str} {px : Pos} {d : D} {ow : Own} (hx : env.kindOf x = some .local) : Asg G n env ow (CT env da) (.Name x px) d ρ ((x, d) :: ρ) :=
  asg_name (by unfold storable; rw [hx]; rfl) (.inl rfl) fun h => by rw [hx] at h; cases h
theorem asgC_pair {x y : Str} {px py tp : Pos} {k : Nat} {d d₁ d₂ : D} {ow : Own} (hx : env.kindOf x = some .local) (hy : env.kindOf y = some .local) (hu : UnpIs d d₁ d₂) : Asg G n env ow (CT env da) (.Tuple [.Name x px, .Name y py] k tp) d ρ ((y, d₂) :: (x, d₁) :: ρ) :=
  asg_pair (by unfold storable; rw [hx]; rfl) (by unfold storable; rw [hy]; rfl) hu (.inl rfl) (fun h => by rw [hx] at h; cases h) fun h => by rw [hy] at h; cases h
theorem sub_tail {x : Str} {d : D} (h : ρ.lookup x = none) : Sub ρ ((x, d) :: ρ) := fun y e q => by
  rw [List.lookup_cons]
  cases hb : y == x with
  | true => rw [beq_iff_eq.mp hb, h] at q; cases q
  | false => exact q
theorem sub_tail2 {x y : Str} {d d' : D} (h : ρ.lookup x = none) (h' : ρ.lookup y = none) : Sub ρ ((y, d') :: (x, d) :: ρ) := fun z e q => by
  rw [List.lookup_cons]
  cases hb : z == y with
  | true => rw [beq_iff_eq.mp hb, h'] at q; cases q
  | false => exact sub_tail h z e q
theorem loops_map {elt iter : Expr} {x : Str} {px pos : Pos} {scope : Scope} {ds : List D} (f : D → D) (hx : env.kindOf x = some .local) (hl : ρ.lookup x = none)
    (step : ∀ d ∈ ds, ∀ done, Ev G n env ((x, d) :: ρ) [(da, .list done)] elt (f d)) : Loops G n env da ρ (.ListComp elt [⟨.Name x px, iter, [], 0⟩] scope pos) 0 (.Name x px) ds (ds.map f) := by
  have := loops_of (G := G) (n := n) (da := da) (ρ := ρ) (ds := ds) (fun d => [f d]) (fun it => turn_one elt (.Name x px) iter [] scope pos it (.ref da) env)
    (fun d hd => ⟨(x, d) :: ρ, true, fun done => asgC_name hx, sub_tail hl, fun done => tsts_nil, fun _ => emit_elt (step d hd), fun h => by cases h⟩)
  rw [flatMap_one] at this; exact this
theorem loops_pmap {elt iter : Expr} {x y : Str} {px py tp pos : Pos} {k : Nat} {scope : Scope} {ds : List D} (l r f : D → D) (hx : env.kindOf x = some .local) (hy : env.kindOf y = some .local) (hl : ρ.lookup x = none) (hl' : ρ.lookup y = none) (hu : ∀ d ∈ ds, UnpIs d (l d) (r d))
    (step : ∀ d ∈ ds, ∀ done, Ev G n env ((y, r d) :: (x, l d) :: ρ) [(da, .list done)] elt (f d)) : Loops G n env da ρ (.ListComp elt [⟨.Tuple [.Name x px, .Name y py] k tp, iter, [], 0⟩] scope pos) 0 (.Tuple [.Name x px, .Name y py] k tp) ds (ds.map f) := by
  have := loops_of (G := G) (n := n) (da := da) (ρ := ρ) (ds := ds) (fun d => [f d]) (fun it => turn_one elt (.Tuple [.Name x px, .Name y py] k tp) iter [] scope pos it (.ref da) env)
    (fun d hd => ⟨(y, r d) :: (x, l d) :: ρ, true, fun done => asgC_pair hx hy (hu d hd), sub_tail2 hl hl', fun done => tsts_nil, fun _ => emit_elt (step d hd), fun h => by cases h⟩)
  rw [flatMap_one] at this; exact this
theorem loops_pfilter {elt iter c : Expr} {x y : Str} {px py tp pos : Pos} {k : Nat} {scope : Scope} {ds : List D} (p : D → Bool) (l r f : D → D) (hx : env.kindOf x = some .local) (hy : env.kindOf y = some .local) (hl : ρ.lookup x = none) (hl' : ρ.lookup y = none) (hu : ∀ d ∈ ds, UnpIs d (l d) (r d))
    (ht : ∀ d ∈ ds, ∀ done, Tst G n env ((y, r d) :: (x, l d) :: ρ) [(da, .list done)] c (p d))
    (step : ∀ d ∈ ds, p d = true → ∀ done, Ev G n env ((y, r d) :: (x, l d) :: ρ) [(da, .list done)] elt (f d)) : Loops G n env da ρ (.ListComp elt [⟨.Tuple [.Name x px, .Name y py] k tp, iter, [c], 0⟩] scope pos) 0 (.Tuple [.Name x px, .Name y py] k tp) ds (ds.flatMap fun d => if p d then [f d] else []) :=
  loops_of (fun d => if p d then [f d] else []) (fun it => turn_one elt (.Tuple [.Name x px, .Name y py] k tp) iter [c] scope pos it (.ref da) env)
    (fun d hd => ⟨(y, r d) :: (x, l d) :: ρ, p d, fun done => asgC_pair hx hy (hu d hd), sub_tail2 hl hl', fun done => tsts_one (ht d hd done), fun h => by rw [if_pos h]; exact emit_elt (step d hd h), fun h => by rw [if_neg (by simp [h])]⟩)
theorem loops_two {elt iter iter' : Expr} {x y : Str} {px py pos : Pos} {scope : Scope} {ds : List D} (es : D → List D) (f : D → D → D) (hx : env.kindOf x = some .local) (hy : env.kindOf y = some .local) (hxy : (y == x) = false) (hl : ρ.lookup x = none) (hl' : ρ.lookup y = none) (hfold : ∀ x, foldedSetIterable iter' env x = pure x)
    (hs : ∀ d ∈ ds, ∀ done, Src G n env ((x, d) :: ρ) [(da, .list done)] (.Name y py) iter' (es d))
    (step : ∀ d ∈ ds, ∀ e ∈ es d, ∀ done, Ev G n env ((y, e) :: (x, d) :: ρ) [(da, .list done)] elt (f d e)) :
    Loops G n env da ρ (.ListComp elt [⟨.Name x px, iter, [], 0⟩, ⟨.Name y py, iter', [], 0⟩] scope pos) 0 (.Name x px) ds (ds.flatMap fun d => (es d).map (f d)) := by
  refine loops_of (fun d => (es d).map (f d)) (fun it => turn_outer elt (.Name x px) iter (.Name y py) iter' [] [] scope pos it (.ref da) env)
    (fun d hd => ⟨(x, d) :: ρ, true, fun done => asgC_name hx, sub_tail hl, fun done => tsts_nil, fun _ => ?_, fun h => by cases h⟩)
  refine emit_inner (hs d hd) hfold ?_
  have := loops_of (G := G) (n := n) (da := da) (ρ := (x, d) :: ρ) (ds := es d) (fun e => [f d e]) (fun it => turn_two elt (.Name y py) iter' (.Name x px) iter [] [] scope pos it (.ref da) env)
    (fun e he => ⟨(y, e) :: (x, d) :: ρ, true, fun done => asgC_name hy, sub_tail (by rw [List.lookup_cons, hxy]; exact hl'), fun done => tsts_nil, fun _ => emit_elt (step d hd e he), fun h => by cases h⟩)
  rw [flatMap_one] at this; exact this
theorem loops_ptwo {elt iter iter' : Expr} {x y z : Str} {px py pz tp pos : Pos} {k : Nat} {scope : Scope} {ds : List D} (l r : D → D) (es : D → List D) (f : D → D → D) (hx : env.kindOf x = some .local) (hy : env.kindOf y = some .local) (hz : env.kindOf z = some .local) (hzx : (z == x) = false) (hzy : (z == y) = false) (hl : ρ.lookup x = none) (hl' : ρ.lookup y = none) (hl'' : ρ.lookup z = none) (hfold : ∀ x, foldedSetIterable iter' env x = pure x) (hu : ∀ d ∈ ds, UnpIs d (l d) (r d))
    (hs : ∀ d ∈ ds, ∀ done, Src G n env ((y, r d) :: (x, l d) :: ρ) [(da, .list done)] (.Name z pz) iter' (es d))
    (step : ∀ d ∈ ds, ∀ e ∈ es d, ∀ done, Ev G n env ((z, e) :: (y, r d) :: (x, l d) :: ρ) [(da, .list done)] elt (f d e)) :
    Loops G n env da ρ (.ListComp elt [⟨.Tuple [.Name x px, .Name y py] k tp, iter, [], 0⟩, ⟨.Name z pz, iter', [], 0⟩] scope pos) 0 (.Tuple [.Name x px, .Name y py] k tp) ds (ds.flatMap fun d => (es d).map (f d)) := by
  refine loops_of (fun d => (es d).map (f d)) (fun it => turn_outer elt (.Tuple [.Name x px, .Name y py] k tp) iter (.Name z pz) iter' [] [] scope pos it (.ref da) env)
    (fun d hd => ⟨(y, r d) :: (x, l d) :: ρ, true, fun done => asgC_pair hx hy (hu d hd), sub_tail2 hl hl', fun done => tsts_nil, fun _ => ?_, fun h => by cases h⟩)
  refine emit_inner (hs d hd) hfold ?_
  have := loops_of (G := G) (n := n) (da := da) (ρ := (y, r d) :: (x, l d) :: ρ) (ds := es d) (fun e => [f d e]) (fun it => turn_two elt (.Name z pz) iter' (.Tuple [.Name x px, .Name y py] k tp) iter [] [] scope pos it (.ref da) env)
    (fun e he => ⟨(z, e) :: (y, r d) :: (x, l d) :: ρ, true, fun done => asgC_name hz, sub_tail (by rw [List.lookup_cons, hzy, List.lookup_cons, hzx]; exact hl''), fun done => tsts_nil, fun _ => emit_elt (step d hd e he), fun h => by cases h⟩)
  rw [flatMap_one] at this; exact this
end
theorem item_str0 {l : List Nat} {i : Int} (h : 0 ≤ i ∧ i < l.length) (hl : l.length < 2 ^ 62) : ItemIs (.str l) (.int i) (.str [l.getD i.toNat 0]) := by
  have hlt : i.toNat < l.length := by omega
  refine item_str (j := i.toNat) ?_ ?_ (by omega)
  · unfold PySem.seqIndex?
    have h1 : ¬ i < 0 := by omega
    simp [h1, h.1, h.2]
  · rw [List.getElem?_eq_getElem hlt, List.getD_eq_getElem?_getD, List.getElem?_eq_getElem hlt]; rfl
theorem item_strN {l : List Nat} {i : Int} (h : i < 0 ∧ -i ≤ l.length) (hl : l.length < 2 ^ 62) : ItemIs (.str l) (.int i) (.str [l.getD (l.length + i).toNat 0]) := by
  have hlt : (l.length + i).toNat < l.length := by omega
  refine item_str (j := (l.length + i).toNat) ?_ ?_ (by omega)
  · unfold PySem.seqIndex?
    have h1 : i < 0 := by omega
    have h2 : 0 ≤ (l.length : Int) + i := by omega
    have h3 : (l.length : Int) + i < l.length := by omega
    have h4 : i + (l.length : Int) = (l.length : Int) + i := Int.add_comm _ _
    simp [h1, h2, h3, h4]
  · rw [List.getElem?_eq_getElem hlt, List.getD_eq_getElem?_getD, List.getElem?_eq_getElem hlt]; rfl
end
section
noncomputable def Out.turn (Y : List Addr) (ρ : Loc) (ow : Own) (brk : Loc → Own → Prop) (ret : D → Loc → Own → Prop) : Out := ⟨Y, fun r w => Sub ρ r ∧ OSub ow w, brk, fun r w => Sub ρ r ∧ OSub ow w, ret⟩
section
variable {G : Gd} {n : Nat} {env : Env} {ρ : Loc} {ow : Own} {bs : List (List Stmt)} {o : Out}
theorem ex_forN {x : Str} {px : Pos} {e : Expr} {body rest : List Stmt} {pos : Pos} {ds : List D} (hk : storable env x = true) (hs : Src G n env ρ ow (.Name x px) e ds) (ρof : Nat → Loc) (owof : Nat → Own) (h0 : Sub (ρof 0) ρ) (how : OSub (owof 0) ow) (ha : ∀ i, (owof i).map (·.1) = ow.map (·.1))
    (turn : ∀ i d, ds[i]? = some d → ∀ Y, Ex G n env ((x, d) :: ρof i) (owof i) [body] (Out.turn Y (ρof (i + 1)) (owof (i + 1)) (fun r w => ∃ ρ' ow', Sub ρ' r ∧ OSub ow' w ∧ ow'.map (·.1) = ow.map (·.1) ∧ Ex G n env ρ' ow' (rest :: bs) o) o.ret))
    (he : Ex G n env (ρof ds.length) (owof ds.length) (rest :: bs) o) (hfold : ∀ x, foldedSetIterable e env x = pure x := by intro _; rfl) : Ex G n env ρ ow ((.For (.Name x px) e body [] pos :: rest) :: bs) o :=
  ex_for hs ρof owof h0 how ha (fun i d hd => ⟨(x, d) :: ρof i, asg_name hk (.inl rfl) fun _ c hc => .inr (.inl ⟨x, hc⟩), fun Y => turn i d hd Y⟩) he hfold
theorem ex_forP {x y : Str} {px py tp : Pos} {k : Nat} {e : Expr} {body rest : List Stmt} {pos : Pos} {ds : List D} (l r : D → D) (hx : storable env x = true) (hy : storable env y = true) (hs : Src G n env ρ ow (.Tuple [.Name x px, .Name y py] k tp) e ds) (ρof : Nat → Loc) (owof : Nat → Own) (h0 : Sub (ρof 0) ρ) (how : OSub (owof 0) ow) (ha : ∀ i, (owof i).map (·.1) = ow.map (·.1)) (hu : ∀ d ∈ ds, UnpIs d (l d) (r d))
    (turn : ∀ i d, ds[i]? = some d → ∀ Y, Ex G n env ((y, r d) :: (x, l d) :: ρof i) (owof i) [body] (Out.turn Y (ρof (i + 1)) (owof (i + 1)) (fun r w => ∃ ρ' ow', Sub ρ' r ∧ OSub ow' w ∧ ow'.map (·.1) = ow.map (·.1) ∧ Ex G n env ρ' ow' (rest :: bs) o) o.ret))
    (he : Ex G n env (ρof ds.length) (owof ds.length) (rest :: bs) o) (hfold : ∀ x, foldedSetIterable e env x = pure x := by intro _; rfl) : Ex G n env ρ ow ((.For (.Tuple [.Name x px, .Name y py] k tp) e body [] pos :: rest) :: bs) o :=
  ex_for hs ρof owof h0 how ha (fun i d hd => ⟨(y, r d) :: (x, l d) :: ρof i, asg_pair hx hy (hu d (List.mem_of_getElem? hd)) (.inl rfl) (fun _ c hc => .inr (.inl ⟨_, hc⟩)) fun _ c hc => .inr (.inl ⟨_, hc⟩), fun Y => turn i d hd Y⟩) he hfold
theorem ex_turn_end {Y : List Addr} {ρ' : Loc} {ow' : Own} {brk : Loc → Own → Prop} {ret : D → Loc → Own → Prop} (h : Sub ρ' ρ) (h' : OSub ow' ow) : Ex G n env ρ ow [] (Out.turn Y ρ' ow' brk ret) := ex_end ⟨h, h'⟩
end
theorem ev_litE {G : Gd} {n : Nat} {env : Env} {ρ : Loc} {ow : Own} {s : String} {k : Nat} {pos : Pos} {l : List Nat} (h : S s = l) : Ev G n env ρ ow (.Constant (.str (Str.ofString s)) k pos) (.str l) := h ▸ ev_lit
theorem small {n : Nat} (h : n ≤ 1000000) : n ≤ sizeLine := Nat.le_trans h (by decide)
theorem bin_cat' {a b : List Nat} (h : a.length + b.length ≤ 1000000) : BinIs .Add (.str a) (.str b) (.str (a ++ b)) := bin_cat (small h)
theorem inc_cat' {a b : List Nat} (h : a.length + b.length ≤ 1000000) : IncIs .Add (.str a) (.str b) (.str (a ++ b)) := inc_cat (small h)
noncomputable def D.s : D → List Nat | .str l => l | _ => []
noncomputable def D.i : D → Int | .int i => i | _ => 0
noncomputable def D.fst : D → D | .tup (a :: _) => a | .list (a :: _) => a | _ => .none
noncomputable def D.snd : D → D | .tup (_ :: b :: _) => b | .list (_ :: b :: _) => b | _ => .none
theorem mem_dstrs {ls : List (List Nat)} {d : D} (h : d ∈ dstrs ls) : ∃ l ∈ ls, d = .str l := let ⟨l, hl, e⟩ := List.mem_map.mp h; ⟨l, hl, e.symm⟩
theorem mem_signs {l : List Nat} {d : D} (h : d ∈ signs l) : ∃ c ∈ l, d = .str [c] := let ⟨c, hc, e⟩ := List.mem_map.mp h; ⟨c, hc, e.symm⟩
theorem mem_dints {ns : List Int} {d : D} (h : d ∈ dints ns) : ∃ i ∈ ns, d = .int i := let ⟨c, hc, e⟩ := List.mem_map.mp h; ⟨c, hc, e.symm⟩
theorem bin_div' {a b : Int} (h : 0 < b ∧ b < 1073741824) : BinIs .FloorDiv (.int a) (.int b) (.int (a / b)) := bin_div h.1 (PyProof.noPylong_small (by omega))
theorem bin_pow2 {k : Int} (h : 0 ≤ k ∧ k ≤ 1000000) : BinIs .Pow (.int 2) (.int k) (.int (2 ^ k.toNat)) := bin_pow h.1 h.2 (by decide)
theorem bin_pow6 {k : Int} (h : 0 ≤ k ∧ k ≤ 1000000) : BinIs .Pow (.int 6) (.int k) (.int (6 ^ k.toNat)) := bin_pow h.1 h.2 (by decide)
theorem cmp_in_strE {l : List Nat} {c : Nat} {b : Bool} (h : decide (c ∈ l) = b) : CmpIs .In (.str [c]) (.str l) b := h ▸ cmp_in_str
theorem mem_numbered {ds : List D} {d : D} (h : d ∈ numbered ds) : ∃ i d', ds[i]? = some d' ∧ d = .tup [.int (i : Nat), d'] := by
  obtain ⟨i, hi⟩ := List.mem_iff_getElem?.mp h
  obtain ⟨d', h1, h2⟩ := numbered_get hi
  exact ⟨i, d', h1, h2⟩
theorem mem_zipped {as bs : List D} {d : D} (h : d ∈ zipped as bs) : ∃ a ∈ as, ∃ b ∈ bs, d = .tup [a, b] := by
  obtain ⟨i, hi⟩ := List.mem_iff_getElem?.mp h
  obtain ⟨a, b, h1, h2, h3⟩ := zipped_get hi
  exact ⟨a, List.mem_of_getElem? h1, b, List.mem_of_getElem? h2, h3⟩
theorem len0 {α : Type} {l : List α} (h : l.length = 0) : l = [] := List.length_eq_zero_iff.mp h
theorem len1 {α : Type} {l : List α} (h : l.length = 1) : ∃ a, l = [a] := List.length_eq_one_iff.mp h
theorem len2 {α : Type} {l : List α} (h : l.length = 2) : ∃ a b, l = [a, b] := by
  match l, h with | [a, b], _ => exact ⟨a, b, rfl⟩
theorem len3 {α : Type} {l : List α} (h : l.length = 3) : ∃ a b c, l = [a, b, c] := by
  match l, h with | [a, b, c], _ => exact ⟨a, b, c, rfl⟩
theorem ifs_len {α β : Type} (p : α → Bool) (f : α → β) : ∀ l : List α, (l.flatMap fun d => if p d then [f d] else []).length ≤ l.length
  | [] => Nat.le_refl _
  | a :: r => by
    have := ifs_len p f r
    rw [List.flatMap_cons, List.length_append, List.length_cons]
    cases p a
    · simp only [Bool.false_eq_true, if_false, List.length_nil]; omega
    · simp only [if_true, List.length_singleton]; omega
theorem numbered_signs {β : Type} (w : List Nat) (g : D → List β) : (numbered (signs w)).flatMap g = (w.zipIdx).flatMap fun p => g (.tup [.int (p.2 : Nat), .str [p.1]]) := by
  simp only [numbered, signs, List.zipIdx_map, List.map_map, List.flatMap_map]; rfl
end
section
noncomputable abbrev MethEq (env : Env) (o : Expr) (name : Str) (apos pos : Pos) (es : List Expr) (pl : Sem Bool) : Prop := eval (.Call (.Attribute o name apos) es [] pos) env = (do
        let ov ← eval o env
        standAt apos.atName
        let (f, first) ← holding [ov] (getMethod ov name pl)
        callWith pos f first (backTo pos (starEach es env)) [])
section
variable {G : Gd} {n : Nat} {env : Env} {ρ : Loc} {ow : Own} {o e e₂ : Expr} {apos pos : Pos} {pl : Sem Bool}
theorem ev_join {sep : List Nat} {ps : List (List Nat)} (hs : noStar [e] = true) (he : MethEq env o "join" apos pos [e] pl) (ho : Ev G n env ρ ow o (.str sep)) (ha : Ev G n env ρ ow e (.list (dstrs ps))) (h : (ps.map fun p => p.length + sep.length).sum ≤ 1000000) : Ev G n env ρ ow (.Call (.Attribute o "join" apos) [e] [] pos) (.str (joinL sep ps)) :=
  ev_meth ho (meth_str F.slot_str_join F.type_str_join) (evAll_cons (by intro x p q; subst q; cases hs) ha evAll_nil) hs (fn_join (small h)) he
theorem ev_count {l : List Nat} {c : Nat} (hs : noStar [e] = true) (he : MethEq env o "count" apos pos [e] pl) (ho : Ev G n env ρ ow o (.str l)) (ha : Ev G n env ρ ow e (.str [c])) : Ev G n env ρ ow (.Call (.Attribute o "count" apos) [e] [] pos) (.int (l.count c)) :=
  ev_meth ho (meth_str F.slot_str_count F.type_str_count) (evAll_cons (by intro x p q; subst q; cases hs) ha evAll_nil) hs fn_count he
theorem ev_sindex {l r : List Nat} {c i : Nat} (hs : noStar [e] = true) (he : MethEq env o "index" apos pos [e] pl) (ho : Ev G n env ρ ow o (.str l)) (ha : Ev G n env ρ ow e (.str [c])) (h : idxs c l = i :: r) : Ev G n env ρ ow (.Call (.Attribute o "index" apos) [e] [] pos) (.int i) :=
  ev_meth ho (meth_str F.slot_str_index F.type_str_index) (evAll_cons (by intro x p q; subst q; cases hs) ha evAll_nil) hs (fn_index h) he
theorem ev_lindex {ls : List (List Nat)} {l : List Nat} {j : Nat} (hs : noStar [e] = true) (he : MethEq env o "index" apos pos [e] pl) (ho : Ev G n env ρ ow o (.list (dstrs ls))) (ha : Ev G n env ρ ow e (.str l)) (hj : ls[j]? = some l) (hno : ∀ i, i < j → ls[i]? ≠ some l) (hsm : ls.length < 2 ^ 62) : Ev G n env ρ ow (.Call (.Attribute o "index" apos) [e] [] pos) (.int j) :=
  ev_meth ho (meth_list F.slot_list_index F.type_list_index) (evAll_cons (by intro x p q; subst q; cases hs) ha evAll_nil) hs (fn_list_index hj hno hsm) he
theorem ev_replace_none {l z : List Nat} {c : Nat} (hs : noStar [e, e₂] = true) (he : MethEq env o "replace" apos pos [e, e₂] pl) (ho : Ev G n env ρ ow o (.str l)) (ha : Ev G n env ρ ow e (.str [c])) (hb : Ev G n env ρ ow e₂ (.str z)) (h : c ∉ l) : Ev G n env ρ ow (.Call (.Attribute o "replace" apos) [e, e₂] [] pos) (.str l) :=
  ev_meth ho (meth_str F.slot_str_replace F.type_str_replace) (evAll_cons (by intro x p q; subst q; cases hs) ha (evAll_cons (by intro x p q; subst q; cases e <;> cases hs) hb evAll_nil)) hs (fn_replace_none h) he
theorem ev_eq {e : Expr} {d d' : D} (h : Ev G n env ρ ow e d') (q : d' = d) : Ev G n env ρ ow e d := q ▸ h
end
theorem joinL_nil (ps : List (List Nat)) : joinL [] ps = ps.flatten := by
  cases ps with
  | nil => rfl
  | cons p ps => simp [joinL, List.flatMap_id']
theorem sum_le {α : Type} (f : α → Nat) (k : Nat) : ∀ (l : List α), (∀ a ∈ l, f a ≤ k) → (l.map f).sum ≤ l.length * k
  | [], _ => by simp
  | a :: r, h => by
    rw [List.map_cons, List.sum_cons, List.length_cons, Nat.succ_mul]
    have h1 := h a (List.mem_cons_self ..)
    have h2 := sum_le f k r fun b hb => h b (List.mem_cons_of_mem _ hb)
    omega
theorem flatMap_le {α β : Type} (f : α → List β) (k : Nat) (l : List α) (h : ∀ a ∈ l, (f a).length ≤ k) : (l.flatMap f).length ≤ l.length * k := by
  rw [List.length_flatMap]; exact sum_le (fun a => (f a).length) k l h
noncomputable def scopeOk (scope : Scope) : Bool := scope.kind == .function && scope.names.all (fun x => x.2 != .cell && (x.2 != .local || scope.names.lookup x.1 == some .local))
theorem scopeOk_kind {scope : Scope} (h : scopeOk scope = true) : scope.kind = .function := by simpa using (Bool.and_eq_true_iff.mp h).1
theorem scopeOk_names {scope : Scope} (h : scopeOk scope = true) : ∀ x ∈ scope.names, x.2 = .local → scope.names.lookup x.1 = some .local := fun x hx hl => by
  have := List.all_eq_true.mp (Bool.and_eq_true_iff.mp h).2 x hx
  rw [hl] at this
  simpa using this
theorem scopeOk_cell {scope : Scope} (h : scopeOk scope = true) : ∀ x ∈ scope.names, x.2 ≠ .cell := fun x hx hl => by
  have := List.all_eq_true.mp (Bool.and_eq_true_iff.mp h).2 x hx
  rw [hl] at this
  simp at this
section
variable {G : Gd} {n : Nat} {env : Env} {ρ ρc : Loc} {ow : Own}
theorem ev_comp_signs {elt iter : Expr} {x : Str} {px pos : Pos} {scope : Scope} {w : List Nat} (f : Nat → List Nat) (hfold : ∀ x, foldedSetIterable iter env x = pure x) (hcl : closOk env.cells scope.names = true) (hok : scopeOk scope = true) (hx : scope.names.lookup x = some .local) (hl : ρc.lookup x = none) (hf : FSub scope env ρc ρ)
    (hi : Ev G n env ρ ow iter (.str w)) (hsz : w.length ≤ 1000000) (step : ∀ C da done, ∀ c ∈ w, Ev G n (cenvOf scope env C) ((x, .str [c]) :: ρc) [(da, .list done)] elt (.str (f c))) :
    Ev G n env ρ ow (.ListComp elt [⟨.Name x px, iter, [], 0⟩] scope pos) (.list (dstrs (w.map f))) := by
  have e : dstrs (w.map f) = (signs w).map fun d => D.str (f (d.s.headD 0)) := by simp only [dstrs, signs, List.map_map]; rfl
  refine ev_comp (src_of hi iter_str) hfold hcl (scopeOk_kind hok) (scopeOk_names hok) (scopeOk_cell hok) hf (fun C da => ?_) (small (by rw [dstrs, List.length_map, List.length_map]; exact hsz))
  rw [e]
  refine loops_map _ (lookup_relabel_local hx) hl fun d hd done => ?_
  obtain ⟨c, hc, rfl⟩ := mem_signs hd
  exact step C da done c hc
end
theorem idxs_first {a b : List Nat} {c : Nat} (h : c ∉ a) : (idxs c (a ++ c :: b)).take 1 = [a.length] := by
  unfold idxs
  have e : List.range ((a ++ c :: b).length + 1) = List.range a.length ++ a.length :: (List.range' (a.length + 1) (b.length + 1)) := by
    rw [List.range_eq_range', List.range_eq_range']
    have h1 : (a ++ c :: b).length + 1 = a.length + (1 + (b.length + 1)) := by simp; omega
    rw [h1, ← List.range'_append_1, ← List.range'_append_1]
    simp
  rw [e, List.filter_append, List.filter_cons]
  have h0 : List.filter (fun i => (a ++ c :: b)[i]? == some c) (List.range a.length) = [] := by
    rw [List.filter_eq_nil_iff]
    intro i hi q
    have hi' := List.mem_range.mp hi
    rw [List.getElem?_append_left hi', beq_iff_eq] at q
    exact h (List.mem_of_getElem? q)
  have h1 : ((a ++ c :: b)[a.length]? == some c) = true := by rw [List.getElem?_append_right (Nat.le_refl _)]; simp
  rw [h0, if_pos h1]
  rfl
section
variable {G : Gd} {n : Nat}
theorem kind_pos (x : Str) : 1 ≤ Builtin.Str.strKind x := by unfold Builtin.Str.strKind; split <;> (try split) <;> omega
theorem fn_split1 {a b : List Nat} {c : Nat} (h : c ∉ a) (hc : c < 256) (hl : (a ++ c :: b).length ≤ 1000000) : FnIs G n (.builtin "str.split") [.str (a ++ c :: b), .str [c], .int 1] (.list [.str a, .str b]) := .mk fun X A s E vs R hb hX ra => by
  obtain ⟨_, _, _, rfl, r, r', r''⟩ := ra.three
  cases r with | str t =>
  cases r' with | str u =>
  cases r'' with | int v =>
  have ho : Builtin.Str.occurrences (tx (a ++ c :: b)) (tx [c]) 0 (tx (a ++ c :: b)).length (limitOf (tx (a ++ c :: b)) 1) = [a.length] := by
    rw [occ_one]; exact idxs_first h
  have hk : Builtin.Str.strKind (tx [c]) = 1 := by
    unfold Builtin.Str.strKind
    rw [if_pos (by simp; exact hc)]
  have hp : Builtin.Str.partsBetween (tx (a ++ c :: b)) [a.length] (tx [c]).length = [tx a, tx b] := by
    unfold Builtin.Str.partsBetween Builtin.Str.strSub
    simp [Str.length]
    exact List.take_of_length_le (by omega)
  have h1 : (decide ((tx (a ++ c :: b)).length < (tx [c]).length) || decide (Builtin.Str.strKind (tx (a ++ c :: b)) < Builtin.Str.strKind (tx [c]))) = false := by
    have := kind_pos (tx (a ++ c :: b))
    rw [hk]
    simp [Str.length]
    omega
  have hm := meets_str_split_sep_max (tx (a ++ c :: b)) (tx [c]) 1 t u v (by decide) h1 rfl (by rw [ho]; rfl) (by rw [tx_len]; exact small hl) (by rw [ho, hp]; exact small (by simp))
  rw [ho, hp] at hm
  refine call_meets F.slot_str_split (typeIs_str _ _ _) F.entry_str_split (F.args_str_split_3 _ _ _) hm ?_
  refine ⟨.list (vs := [.str (tx a) s.toks, .str (tx b) (s.toks + 1)]) ⟨_, Heap.get?_push_size _ rfl⟩ hX.new (.cons (.str a _) (.cons (.str b _) .nil)), ?_⟩
  exact ⟨⟨_, _, rfl⟩, fun _ _ e => Heap.get?_push_of_some _ e⟩
end
section
variable {G : Gd} {n : Nat} {env : Env} {ρ : Loc} {ow : Own} {o e e₂ : Expr} {apos pos : Pos} {pl : Sem Bool}
theorem ev_split1 {a b : List Nat} {c : Nat} (hs : noStar [e, e₂] = true) (he : MethEq env o "split" apos pos [e, e₂] pl) (ho : Ev G n env ρ ow o (.str (a ++ c :: b))) (ha : Ev G n env ρ ow e (.str [c])) (hb : Ev G n env ρ ow e₂ (.int 1)) (h : c ∉ a) (hc : c < 256) (hl : (a ++ c :: b).length ≤ 1000000) : Ev G n env ρ ow (.Call (.Attribute o "split" apos) [e, e₂] [] pos) (.list [.str a, .str b]) :=
  ev_meth ho (meth_str F.slot_str_split F.type_str_split) (evAll_cons (by intro x p q; subst q; cases hs) ha (evAll_cons (by intro x p q; subst q; cases e <;> cases hs) hb evAll_nil)) hs (fn_split1 h hc hl) he
end
section
variable {G : Gd} {n : Nat} {env : Env} {ρ : Loc} {ow : Own}
theorem ev_neg {k : Int} {c : Nat} {p q : Pos} : Ev G n env ρ ow (.UnaryOp .USub (.Constant (.int k) c p) q) (.int (-k)) := .mk <| fun X A s E R F => by
  exact UnaryOp_ (wpAny_Constant_int (neg_int ⟨.int _ _, .toks _ _⟩))
end
theorem cmp_in_tupE {l : List Nat} {ls : List (List Nat)} {b : Bool} (h : ls.contains l = b) : CmpIs .In (.str l) (.tup (dstrs ls)) b := h ▸ cmp_in_tup
end
section
theorem pys_ints : ∀ ns : List Int, pys (dints ns) = ns.map .int
  | [] => rfl
  | a :: r => by show _ :: _ = _ :: _; rw [← dints, pys_ints r]; rfl
theorem pys_strs : ∀ ls : List (List Nat), pys (dstrs ls) = ls.map fun l => .str (tx l)
  | [] => rfl
  | a :: r => by show _ :: _ = _ :: _; rw [← dstrs, pys_strs r]; rfl
theorem ok_ints : ∀ ns : List Int, pysOk (dints ns) = true
  | [] => rfl
  | a :: r => by show (true && pysOk (dints r)) = true; rw [ok_ints r]; rfl
theorem ok_strs : ∀ ns : List (List Nat), pysOk (dstrs ns) = true
  | [] => rfl
  | a :: r => by show (true && pysOk (dstrs r)) = true; rw [ok_strs r]; rfl
theorem ints_ok (ns : List Int) : pyOk (.list (dints ns)) = true := by simp [pyOk, ok_ints]
theorem strs_ok (ns : List (List Nat)) : pyOk (.list (dstrs ns)) = true := by simp [pyOk, ok_strs]
theorem eqv_ints : ∀ a b : List Int, PyData.eqvAll (a.map .int) (b.map .int) = (a == b)
  | [], [] => rfl
  | [], _ :: _ => rfl
  | _ :: _, [] => rfl
  | x :: a, y :: b => by
    rw [List.map_cons, List.map_cons, PyData.eqvAll, PyData.eqv, eqv_ints a b]; rfl
theorem tx_beq (a b : List Nat) : (tx a == tx b) = (a == b) := by
  rw [Bool.eq_iff_iff, beq_iff_eq, beq_iff_eq]
  constructor
  · intro h; injection h with h; exact Array.toList_inj.mpr h
  · intro h; rw [h]
theorem eqv_strs : ∀ a b : List (List Nat), PyData.eqvAll (a.map fun l => .str (tx l)) (b.map fun l => .str (tx l)) = (a == b)
  | [], [] => rfl
  | [], _ :: _ => rfl
  | _ :: _, [] => rfl
  | x :: a, y :: b => by
    rw [List.map_cons, List.map_cons, PyData.eqvAll, PyData.eqv, eqv_strs a b, tx_beq]; rfl
set_option tactic.hygienic true in
theorem lay_ints (ns : List Int) (h : ∀ i ∈ ns, i.natAbs < 2 ^ 32) (hl : ns.length ≤ 1000) : (py (.list (dints ns))).layable0 = true := by
  have key : ∀ ns : List Int, (∀ i ∈ ns, i.natAbs < 2 ^ 32) → PyData.canLayAll0 (ns.map .int) = true ∧ PyData.depthAll (ns.map .int) = 0 ∧ PyData.weightAll (ns.map .int) ≤ ns.length * 40 := by
    intro ns
    induction ns with
    | nil => intro _; exact ⟨by simp [PyData.canLayAll0], by simp [PyData.depthAll], by simp [PyData.weightAll]⟩
    | cons a r ih =>
      intro h
      obtain ⟨h1, h2, h3⟩ := ih fun i hi => h i (List.mem_cons_of_mem _ hi)
      have ha := h a (List.mem_cons_self ..)
      refine ⟨by simp [PyData.canLayAll0, PyData.canLay0, h1], by simp [PyData.depthAll, PyData.depth, h2], ?_⟩
      rw [List.map_cons, PyData.weightAll, PyData.weight, List.length_cons, Nat.succ_mul]
      have : (if a == 0 then 0 else a.natAbs.log2 + 1) ≤ 33 := by
        split
        · exact Nat.zero_le _
        · rename_i hne
          have hz : a.natAbs ≠ 0 := fun q => hne (by simpa using q)
          have := (Nat.log2_lt hz).mpr ha
          omega
      omega
  obtain ⟨h1, h2, h3⟩ := key ns h
  unfold PyData.layable0
  simp only [py, pys_ints, PyData.canLay0, PyData.depth, PyData.weight, h1, h2, Bool.true_and, Bool.and_eq_true, decide_eq_true_eq]
  omega
theorem lay_strs (ls : List (List Nat)) (h : ∀ l ∈ ls, l.length ≤ 1000 ∧ ∀ c ∈ l, c < 0x110000) (hl : ls.length ≤ 1000) : (py (.list (dstrs ls))).layable0 = true := by
  have key : ∀ ls : List (List Nat), (∀ l ∈ ls, l.length ≤ 1000 ∧ ∀ c ∈ l, c < 0x110000) → PyData.canLayAll0 (ls.map fun l => .str (tx l)) = true ∧ PyData.depthAll (ls.map fun l => .str (tx l)) = 0 ∧ PyData.weightAll (ls.map fun l => .str (tx l)) ≤ ls.length * 1001 := by
    intro ls
    induction ls with
    | nil => intro _; exact ⟨by simp [PyData.canLayAll0], by simp [PyData.depthAll], by simp [PyData.weightAll]⟩
    | cons a r ih =>
      intro h
      obtain ⟨h1, h2, h3⟩ := ih fun i hi => h i (List.mem_cons_of_mem _ hi)
      obtain ⟨ha, hc⟩ := h a (List.mem_cons_self ..)
      have hok : PyData.strOk (tx a) = true := by unfold PyData.strOk; simpa using hc
      refine ⟨by simp [PyData.canLayAll0, PyData.canLay0, h1, hok], by simp [PyData.depthAll, PyData.depth, h2], ?_⟩
      rw [List.map_cons, PyData.weightAll, PyData.weight, List.length_cons, Nat.succ_mul]
      have : (tx a).cps.size = a.length := by simp
      omega
  obtain ⟨h1, h2, h3⟩ := key ls h
  unfold PyData.layable0
  simp only [py, pys_strs, PyData.canLay0, PyData.depth, PyData.weight, h1, h2, Bool.true_and, Bool.and_eq_true, decide_eq_true_eq]
  omega
theorem cmp_ne_ints {a b : List Int} (ha : ∀ i ∈ a, i.natAbs < 2 ^ 32) (hb : ∀ i ∈ b, i.natAbs < 2 ^ 32) (la : a.length ≤ 1000) (lb : b.length ≤ 1000) : CmpIs .NotEq (.list (dints a)) (.list (dints b)) (!(a == b)) :=
  cmp_ne_data (ints_ok a) (ints_ok b) (lay_ints a ha la) (lay_ints b hb lb) (by simp only [py, pys_ints, PyData.eqv, eqv_ints])
theorem cmp_eq_strs {a b : List (List Nat)} (ha : ∀ l ∈ a, l.length ≤ 1000 ∧ ∀ c ∈ l, c < 0x110000) (hb : ∀ l ∈ b, l.length ≤ 1000 ∧ ∀ c ∈ l, c < 0x110000) (la : a.length ≤ 1000) (lb : b.length ≤ 1000) : CmpIs .Eq (.list (dstrs a)) (.list (dstrs b)) (a == b) :=
  cmp_eq_data (strs_ok a) (strs_ok b) (lay_strs a ha la) (lay_strs b hb lb) (by simp only [py, pys_strs, PyData.eqv, eqv_strs])
theorem cmp_ne_strs {a b : List (List Nat)} (ha : ∀ l ∈ a, l.length ≤ 1000 ∧ ∀ c ∈ l, c < 0x110000) (hb : ∀ l ∈ b, l.length ≤ 1000 ∧ ∀ c ∈ l, c < 0x110000) (la : a.length ≤ 1000) (lb : b.length ≤ 1000) : CmpIs .NotEq (.list (dstrs a)) (.list (dstrs b)) (!(a == b)) :=
  cmp_ne_data (strs_ok a) (strs_ok b) (lay_strs a ha la) (lay_strs b hb lb) (by simp only [py, pys_strs, PyData.eqv, eqv_strs])
end
section
theorem and_mask {x : Int} (k : Nat) (hx : 0 ≤ x) : Builtin.bitAnd x ((2 ^ k - 1 : Nat) : Int) = x % (2 ^ k : Nat) := by
  rw [bitAnd_pp hx (by omega)]
  rw [Int.toNat_natCast, Nat.and_two_pow_sub_one_eq_mod]
  obtain ⟨m, rfl⟩ := Int.eq_ofNat_of_zero_le hx
  rw [Int.toNat_natCast]; push_cast; rfl
theorem and_63 {x : Int} (hx : 0 ≤ x) : Builtin.bitAnd x 63 = x % 64 := and_mask 6 hx
theorem and_15 {x : Int} (hx : 0 ≤ x) : Builtin.bitAnd x 15 = x % 16 := and_mask 4 hx
theorem and_3 {x : Int} (hx : 0 ≤ x) : Builtin.bitAnd x 3 = x % 4 := and_mask 2 hx
theorem and_65535 {x : Int} (hx : 0 ≤ x) : Builtin.bitAnd x 65535 = x % 65536 := and_mask 16 hx
theorem or_low {a y : Int} (k : Nat) (ha : 0 ≤ a) (hy : 0 ≤ y ∧ y < (2 ^ k : Nat)) : Builtin.bitOr (a * (2 ^ k : Nat)) y = a * (2 ^ k : Nat) + y := by
  obtain ⟨m, rfl⟩ := Int.eq_ofNat_of_zero_le ha
  obtain ⟨j, rfl⟩ := Int.eq_ofNat_of_zero_le hy.1
  have hj : j < 2 ^ k := by exact_mod_cast hy.2
  rw [bitOr_and]
  have h1 : ((m : Int) * (2 ^ k : Nat)) = ((m * 2 ^ k : Nat) : Int) := by push_cast; rfl
  rw [h1, bitAnd_pp (by omega) (by omega), Int.toNat_natCast, Int.toNat_natCast]
  have h2 : m * 2 ^ k &&& j = 0 := by
    apply Nat.eq_of_testBit_eq
    intro i
    rw [Nat.testBit_and, Nat.zero_testBit, Nat.mul_comm, Nat.testBit_two_pow_mul]
    by_cases h : k ≤ i
    · have : j.testBit i = false := Nat.testBit_lt_two_pow (Nat.lt_of_lt_of_le hj (Nat.pow_le_pow_right (by decide) h))
      rw [this, Bool.and_false]
    · simp [h]
  rw [h2]; simp
theorem shr_nat {x : Int} (k : Nat) (hx : 0 ≤ x) : x.fdiv (2 ^ k) = x / (2 ^ k : Nat) := by
  rw [Int.fdiv_eq_ediv_of_nonneg _ (by exact Int.le_of_lt (Int.pow_pos (by decide)))]
  push_cast; rfl
theorem ev_globB {G : Gd} {n : Nat} {env : Env} {ρ : Loc} {ow : Own} {x : Str} {l : List UInt8} {t : Tok} {pos : Pos} (hk : env.kindOf x = some .globalImplicit) (e : nsIn G.K mainGlobals x = some (some (.bytes l.toArray t))) (hd : (x == ("__debug__" : Str)) = false) : Ev G n env ρ ow (.Name x pos) (.bytes l) := .mk <| fun X A s E R F => by
  refine wpAny_mono ((ev_glob (n := n) (pos := pos) (ρ := ρ) (ow := ow) hk e hd).go X A s E R F) (fun v s' q => ?_) fun _ _ y => y
  obtain ⟨q, g⟩ := q
  cases q; exact ⟨.bytes l t, g⟩
theorem item_bytes {l : List UInt8} {i : Int} (h : 0 ≤ i ∧ i < l.length) (hl : l.length < 1099511627776) : ItemIs (.bytes l) (.int i) (.int ((l.getD i.toNat 0).toNat : Int)) := .mk <| fun prog w X A s E value slice v₁ v₂ hs _ r₁ r₂ => by
  cases r₁; cases r₂
  exact tail_any (typeIs_bytes s _ _) FB.slot_bytes_getitem.lookup (PySem.W.getItem_bytes (by omega) h.1 h.2 ⟨.int _ _, .toks _ _⟩) hs
theorem tst_isinstance_str {G : Gd} {n : Nat} {l : List Nat} : FnIs G n (.builtin "isinstance") [.str l, .raw (.type "str")] (.bool true) := .mk fun X A s E vs R hb hX ra => by
  obtain ⟨_, _, rfl, r, r'⟩ := ra.two
  cases r; cases r'
  exact IsiPair.str_str ⟨.bool _, .refl _⟩
theorem fn_type_bytes {G : Gd} {n : Nat} {l : List UInt8} : FnIs G n (.type "type") [.bytes l] (.raw (.type "bytes")) := .mk fun X A s E vs R hb hX ra => by
  obtain ⟨_, rfl, r⟩ := ra.one
  cases r
  exact call_type_of (typeIs_bytes _ _ _) (by decide) ⟨.raw _, .refl _⟩
theorem fn_type_bool {G : Gd} {n : Nat} {b : Bool} : FnIs G n (.type "type") [.bool b] (.raw (.type "bool")) := .mk fun X A s E vs R hb hX ra => by
  obtain ⟨_, rfl, r⟩ := ra.one
  cases r
  exact call_type_of (Tx := "bool") rfl (by decide) ⟨.raw _, .refl _⟩
section
variable {G : Gd} {n : Nat} {env : Env} {ρ : Loc} {ow : Own} {bs : List (List Stmt)} {o : Out}
theorem ex_try {body rest : List Stmt} {h₀ : ExceptHandler} {hs : List ExceptHandler} {pos : Pos} (h : Ex G n env ρ ow [body] ⟨o.base, fun _ _ => False, fun _ _ => False, fun _ _ => False, o.ret⟩) : Ex G n env ρ ow ((.Try body (h₀ :: hs) [] [] pos :: rest) :: bs) o := .mk <| fun X A s E R B F => by
  refine wpAny_execs_cons (wpAny_Try_except ?_)
  refine wpAny_mono (h.go X A s _ R B F) (fun f s₁ q => ?_) fun _ _ y => y
  obtain ⟨t, q⟩ := q
  cases f with
  | ret v => exact seqP_other (by simp) ⟨t, q⟩
  | _ => obtain ⟨_, _, _, _, e, _⟩ := q; exact e.elim
end
open Builtin Builtin._codecs in
theorem encodeRoad_ascii (id : String) (self : Value) (x : Str) (errors : Option Str) : encodeRoad id self x (Str.ofString "ascii") errors = (do mkBytes (← encodeNarrow id asciiCodec errors self x)) := by
  first | rfl | (unfold encodeRoad; rfl) | (unfold encodeRoad; simp only []; rfl) | kernel_rfl
open Builtin Builtin._codecs in
theorem encode_ascii_tree (x : Str) (t u : Tok) : «str.encode» ⟨[.str x t, .str (Str.ofString "ascii") u], []⟩ = (do ret (← encodeRoad "str.encode" (.str x t) x (Str.ofString "ascii") none)) := by
  first | rfl | kernel_rfl
open Builtin in
theorem road_ascii {id : String} {b : Array UInt8} : _codecs.decodeRoad id b (PySem.Str.ofString "ascii") none [] = (_codecs.runDecoder id _codecs.asciiDecoder none true b 0 [] >>= fun r => mkStr ⟨r.1⟩) := by kernel_rfl
open Builtin in
theorem decode_ascii_tree {c : UInt8} {cs : List UInt8} {t u : Tok} : «bytes.decode» ⟨[.bytes (c :: cs).toArray t, .str (Str.ofString "ascii") u], []⟩ = (mkStr (PySem.Str.ofString "utf-8") >>= fun _ => mkStr (PySem.Str.ofString "ascii") >>= fun e => mkStr (PySem.Str.ofString "bytes.decode") >>= fun d =>
    call (.builtin "_codecs.decode.text") [.bytes (c :: cs).toArray t, e, .none, d] >>= fun v => ret v) := by kernel_rfl
theorem sl4 (n : Nat) (h : n ≤ 4) : ¬ sizeLine < n := Nat.not_lt.mpr (Nat.le_trans h (by decide))
theorem for4 {σ β : Type} {f : Nat → σ → Sem (ForInStep σ)} {s0 s1 : σ} {k : σ → Sem β} (h0 : f 0 s0 = pure (.yield s1)) (h1 : f 1 s1 = pure (.done s1)) : (forIn [:4] s0 f >>= k) = k s1 := by
  have e : (forIn [:4] s0 f : Sem σ) = pure s1 := by
    rw [Std.Legacy.Range.forIn_eq_forIn_range']
    show (forIn [0, 1, 2, 3] s0 f : Sem σ) = pure s1
    rw [List.forIn_cons, h0]
    show (forIn [1, 2, 3] s1 f : Sem σ) = pure s1
    rw [List.forIn_cons, h1]; rfl
  rw [e]; rfl
open Builtin Builtin._codecs in
theorem narrow4 (id : String) (self : Value) (a b c d : Nat) (h : a < 128 ∧ b < 128 ∧ c < 128 ∧ d < 128) : encodeNarrow id asciiCodec none self (tx [a, b, c, d]) = pure #[a.toUInt8, b.toUInt8, c.toUInt8, d.toUInt8] := by
  have bad : ∀ {x}, x < 128 → asciiCodec.bad x = false := fun {x} h => decide_eq_false (Nat.not_le.mpr h)
  have hf : Array.findIdx? asciiCodec.bad ((#[a, b, c, d] : Array Nat).extract 0) = none := by
    show Array.findIdx? asciiCodec.bad #[a, b, c, d] = none
    rw [List.findIdx?_toArray, List.findIdx?_cons, bad h.1, List.findIdx?_cons, bad h.2.1, List.findIdx?_cons, bad h.2.2.1, List.findIdx?_cons, bad h.2.2.2]
    rfl
  show encodeNarrow id asciiCodec none self ⟨#[a, b, c, d]⟩ = _
  unfold encodeNarrow
  refine for4 (s1 := (4, #[a.toUInt8, b.toUInt8, c.toUInt8, d.toUInt8], {})) ?_ ?_
  · refine (if_neg (sl4 0 (by decide))).trans ?_
    show (if (!asciiCodec.bad a) = true then _ else _) = _
    refine (if_pos (by rw [bad h.1]; rfl)).trans ?_
    show pure (ForInStep.yield (0 + (Array.findIdx? asciiCodec.bad ((#[a, b, c, d] : Array Nat).extract 0)).getD 4, _, _)) = _
    dsimp only
    rw [hf]
    kernel_rfl
  · refine (if_neg (sl4 4 (by decide))).trans ?_
    rfl
theorem for4y {σ β : Type} {f : Nat → σ → Sem (ForInStep σ)} {st : Nat → σ} {k : σ → Sem β} (h : ∀ p, p < 4 → f p (st p) = pure (.yield (st (p + 1)))) : (forIn [:4] (st 0) f >>= k) = k (st 4) := by
  have e : (forIn [:4] (st 0) f : Sem σ) = pure (st 4) := by
    rw [Std.Legacy.Range.forIn_eq_forIn_range']
    show (forIn [0, 1, 2, 3] (st 0) f : Sem σ) = pure (st 4)
    rw [List.forIn_cons, h 0 (by decide)]
    show (forIn [1, 2, 3] (st 1) f : Sem σ) = pure (st 4)
    rw [List.forIn_cons, h 1 (by decide)]
    show (forIn [2, 3] (st 2) f : Sem σ) = pure (st 4)
    rw [List.forIn_cons, h 2 (by decide)]
    show (forIn [3] (st 3) f : Sem σ) = pure (st 4)
    rw [List.forIn_cons, h 3 (by decide)]; rfl
  rw [e]; rfl
theorem four {P : Nat → Prop} (h0 : P 0) (h1 : P 1) (h2 : P 2) (h3 : P 3) : ∀ p, p < 4 → P p
  | 0, _ => h0
  | 1, _ => h1
  | 2, _ => h2
  | 3, _ => h3
open Builtin Builtin._codecs in
theorem decode4 (id : String) (a b c d : UInt8) (h : a.toNat < 128 ∧ b.toNat < 128 ∧ c.toNat < 128 ∧ d.toNat < 128) : runDecoder id asciiDecoder none true #[a, b, c, d] = pure (#[a.toNat, b.toNat, c.toNat, d.toNat], 4) := by
  have hf : ∀ p, p < 4 → asciiDecoder.find true #[a, b, c, d] p = .char ((#[a, b, c, d] : Array UInt8).getD p 0).toNat (p + 1) := fun p hp => if_pos (four (P := fun p => ((#[a, b, c, d] : Array UInt8).getD p 0).toNat < 128) h.1 h.2.1 h.2.2.1 h.2.2.2 p hp)
  unfold runDecoder
  refine for4y (st := fun p => (p, (([a, b, c, d].take p).map UInt8.toNat).toArray, ({} : Faults))) fun p hp => ?_
  refine (if_neg (sl4 _ ?_)).trans ((if_neg (Nat.not_le.mpr hp)).trans ?_)
  · show (([a, b, c, d].take p).map UInt8.toNat).toArray.size ≤ 4
    rw [List.size_toArray, List.length_map, List.length_take]
    exact Nat.le_trans (Nat.min_le_left _ _) (Nat.le_of_lt hp)
  · dsimp only
    rw [hf p hp]
    revert p
    exact four (by kernel_rfl) (by kernel_rfl) (by kernel_rfl) (by kernel_rfl)
section
variable {G : Gd} {n : Nat}
theorem fn_encode4 {a b c d : Nat} (h : a < 128 ∧ b < 128 ∧ c < 128 ∧ d < 128) : FnIs G n (.builtin "str.encode") [.str [a, b, c, d], .str (S "ascii")] (.bytes [a.toUInt8, b.toUInt8, c.toUInt8, d.toUInt8]) := .mk fun X A s E vs R hb hX ra => by
  obtain ⟨_, _, rfl, r, r'⟩ := ra.two
  have e : (⟨(S "ascii").toArray⟩ : Str) = Str.ofString "ascii" := (Str.ofString_eq_toList "ascii").symm
  cases r
  cases r' with | str l t =>
  rw [e]
  refine wpAny_call_entry F.slot_str_encode (typeIs_str _ _ _) F.entry_str_encode ?_ (F.args_str_encode_2 _ _)
  show wpAny _ _ (Builtin.«str.encode» ⟨[.str (tx [a, b, c, d]) _, .str (Str.ofString "ascii") _], []⟩) _ _ _
  rw [encode_ascii_tree, encodeRoad_ascii, narrow4 _ _ a b c d h]
  refine wpAny_bind (wpAny_bind (wpAny_pure (wpAny_mkBytes ?_)))
  exact wpAny_pure ⟨_, rfl, .bytes _ _, .toks _ _⟩
open Builtin in
theorem text_ascii {prog : Program} {w : World} {A : Around} {E : Value → Shared → Prop} {s : Shared} {a b c d : UInt8} {t t1 t2 : Tok} {dd : Str} {Q : Value → Shared → Prop} (h : a.toNat < 128 ∧ b.toNat < 128 ∧ c.toNat < 128 ∧ d.toNat < 128) (hQ : ∀ t' k, Q (.str (tx [a.toNat, b.toNat, c.toNat, d.toNat]) t') { s with toks := k }) :
    wpAny (model prog w) A (call (.builtin "_codecs.decode.text") [.bytes #[a, b, c, d] t, .str (Str.ofString "ascii") t1, .none, .str dd t2]) Q E s := by
  refine call_function_meets (S := fun _ R s => ∀ k, R (.ok (.ret (.str (tx [a.toNat, b.toNat, c.toNat, d.toNat]) s.toks))) { s with toks := k }) KBd.kind_text KBd.plain_text KBd.entry_text (KBd.args_text _ _ _ _) (.of_wp fun prog w A R s hS => ?_) ?_
  · show wpAny _ _ (Bytes.bytesLike _ (.bytes #[a, b, c, d] t) >>= fun r => _) _ _ s
    refine wpAny_bind (wpAny_of_eq KBd.like_eq ?_)
    refine wpAny_bind (wpAny_of_eq KBd.held_eq ?_)
    show wpAny _ _ (_codecs.decodeRoad _ #[a, b, c, d] (PySem.Str.ofString "ascii") none [] >>= fun v => _) _ _ s
    rw [road_ascii, decode4 _ a b c d h]
    refine wpAny_bind (wpAny_bind (wpAny_pure ?_))
    exact wpAny_mkStr (wpAny_pure ⟨_, rfl, hS _⟩) (show 4 ≤ sizeLine by decide)
  · intro k; exact hQ _ _
theorem args_decode (a b : Value) : argsOk "bytes.decode" ⟨[a, b], []⟩ := by
  unfold argsOk; rw [signature?_of (id := "bytes.decode") (n := ['e', 'd', 'o', 'c', 'e', 'd']) (o := ['s', 'e', 't', 'y', 'b']) (by kernel_rfl) FB.owner_bytes]; kernel_rfl
theorem fn_decode4 {a b c d : UInt8} (h : a.toNat < 128 ∧ b.toNat < 128 ∧ c.toNat < 128 ∧ d.toNat < 128) : FnIs G n (.builtin "bytes.decode") [.bytes [a, b, c, d], .str (S "ascii")] (.str [a.toNat, b.toNat, c.toNat, d.toNat]) := .mk fun X A s E vs R hb hX ra => by
  obtain ⟨_, _, rfl, r, r'⟩ := ra.two
  have e : (⟨(S "ascii").toArray⟩ : Str) = Str.ofString "ascii" := (Str.ofString_eq_toList "ascii").symm
  cases r
  cases r' with | str l t =>
  rw [e]
  refine wpAny_call_entry FB.slot_bytes_decode (typeIs_bytes _ _ _) FB.entry_bytes_decode ?_ (args_decode _ _)
  show wpAny _ _ (Builtin.«bytes.decode» ⟨[.bytes (a :: [b, c, d]).toArray _, .str (Str.ofString "ascii") _], []⟩) _ _ _
  rw [decode_ascii_tree]
  refine wpAny_bind (wpAny_mkStr (wpAny_bind (wpAny_mkStr (wpAny_bind (wpAny_mkStr (wpAny_bind ?_) (by decide))) (by decide))) (by decide))
  exact text_ascii h fun t' k => wpAny_pure ⟨_, rfl, .str _ _, .toks _ _⟩
end
end
section
structure FnA (G : Gd) (n : Nat) (f : Value) (ds : List D) (kns : List Str) (kds : List D) (d : D) : Prop where
  go : ∀ (X : List Addr) (A : Around) (s : Shared) (E : Value → Shared → Prop) (vs ks : List Value), Room n A → G.H₀.StaysIn s.heap → Live X s.heap → RepAll X s.heap vs ds → RepAll X s.heap ks kds →
    wpAny (model G.prog G.w) A (call f vs (kns.zip ks)) (fun v s' => Rep X s'.heap v d ∧ Grow s s') E s
theorem FnA.plain {G : Gd} {n : Nat} {f : Value} {ds : List D} {d : D} (h : FnA G n f ds [] [] d) : FnIs G n f ds d := .mk fun X A s E vs R hb hX ra => h.go X A s E vs [] R hb hX ra .nil
theorem FnA.le {G : Gd} {n m : Nat} {f : Value} {ds : List D} {kns : List Str} {kds : List D} {d : D} (h : FnA G n f ds kns kds d) (hm : n ≤ m) : FnA G m f ds kns kds d := .mk fun X A s E vs ks R => h.go X A s E vs ks (R.le hm)
theorem fn_ofB {G : Gd} {n : Nat} {f : Addr} {oc : Value} {od : Option Addr} {osl : Array (Option Value)} {fd : FuncData} {body : List Stmt} {ns : List Str} {ds ds' : List D} {kns : List Str} {kds : List D} {d : D} (bv : List Value → List Value → List Value)
    (ho : G.K.lookup f = some ⟨oc, od, .func fd, osl⟩) (hcd : codeIn G.K fd.code fd.qualname = true) (hbody : fd.body = .stmts body)
    (hbind : ∀ S (vs ks : List Value), vs.length = ds.length → ks.length = kds.length → peek G.K S (bindArgs fd ⟨vs, kns.zip ks⟩) = some (ns.zip (bv vs ks))) (hrep : ∀ X h vs ks, RepAll X h vs ds → RepAll X h ks kds → RepAll X h (bv vs ks) ds')
    (hclo : fd.closure = []) (hnd : ns.Nodup) (hlen : ns.length = ds'.length)
    (hkind : (ns.all fun x => fd.scope.names.lookup x == some .local || fd.scope.names.lookup x == some .cell) = true)
    (hgl : fd.globals = mainGlobals) (hbl : fd.builtins = builtinsNs)
    (hco : fd.scope.isCoroutine = false) (hgen : fd.scope.isGenerator = false) (hk : fd.scope.kind = .function)
    (h : ∀ X L, Ex G n (callEnvC fd L f) (ns.zip ds') [] [body] (.fn X d)) : FnA G (n + 1) (.ref f) ds kns kds d := .mk <| fun X A s E vs ks R hb hX ra rk => by
  have K₁ : G.K.In s.heap := G.X.keeps hb
  have rb := hrep X s.heap vs ks ra rk
  have hvl : (bv vs ks).length = ds'.length := rb.length
  have hkd : ∀ x ∈ ns.zip (bv vs ks), fd.scope.names.lookup x.1 = some .local ∨ (fd.scope.names.lookup x.1 = some .cell ∧ ((cellsFrom (s.heap.objs.size + 1) fd.scope.names []).lookup x.1).isSome = true) := fun x hx => by
    have hx1 : x.1 ∈ ns := (List.of_mem_zip (a := x.1) (b := x.2) hx).1
    have := List.all_eq_true.mp hkind x.1 hx1
    rcases Bool.or_eq_true_iff.mp this with q | q
    · exact .inl (by simpa using q)
    · have q' : fd.scope.names.lookup x.1 = some .cell := by simpa using q
      exact .inr ⟨q', cellsFrom_some _ _ _ (.inl q')⟩
  refine wpAny_call (codeAny_call_function R.depth (K₁ _ _ ho) rfl hco hgen hbody (codeRec_of K₁ hcd) (kp_binds K₁ (fun S => hbind S vs ks ra.length rk.length) _ _ _ _ ?_))
  rw [hclo]
  refine wpAny_newFunctionEnv_cells hk hkd fun env he s₁ C => ?_
  subst he
  have hg : Grow s s₁ := by obtain ⟨h', tk, rfl, k⟩ := C.done; exact .of k
  refine ⟨(G.T.nolimit.keeps hb).keeps C.toInCall.keep, codeAny_func ?_⟩
  have hLs : ∀ b o, s.heap.get? b = some o → ¬ Mut (callEnvC fd s.heap.objs.size f) [] b := fun b o e q => by
    have hlt := Heap.lt_size e
    rcases q with q | ⟨y, q⟩ | q
    · exact Nat.lt_irrefl _ (q ▸ hlt)
    · exact absurd (C.above y b (mem_of_lookup q)) (Nat.not_lt.mpr (Nat.le_of_lt hlt))
    · cases q
  have F : Fits G (callEnvC fd s.heap.objs.size f) X (ns.zip ds') [] s₁ := by
    refine ⟨fun b o e => hg.heap b o (hb b o e), hk, hgl, hbl, ⟨_, C.toInCall.ns⟩, fun x d' e => ?_, fun p hp => (nomatch hp), .nil, hX.keeps hg.heap, fun b o e => hLs b o (hb b o e), cells_mem_lookup C.apart, fun y c e => ⟨_, C.cell y c e⟩, fun p hp => (nomatch hp)⟩
    obtain ⟨v, hv, hr⟩ := zip_lookup rb e
    have hnd' : ((ns.zip (bv vs ks)).map (·.1)).Nodup := by rw [List.map_fst_zip (by omega)]; exact hnd
    rcases hkd (x, v) (mem_of_lookup hv) with q | ⟨q, q2⟩
    · exact .loc _ v q C.toInCall.ns (bindL_get hnd' q (.inl hv)) (hr.keeps hg.heap)
    · obtain ⟨c, hc⟩ := Option.isSome_iff_exists.mp q2
      have := C.cell x c hc
      rw [bindC_get hnd' (by show fd.scope.names.lookup x ≠ _; rw [q]; decide) (.inl hv)] at this
      exact .cell c v (.inl q) hc this (hr.keeps hg.heap)
  refine wpAny_mono ((h X s.heap.objs.size).go X _ s₁ _ R.deeper (fun _ q => q) F) (fun fl s' q => ?_) fun _ _ y => y
  obtain ⟨t, q⟩ := q
  cases fl with
  | ret v =>
    obtain ⟨d', _, _, _, hB', r, e, _⟩ := q
    cases e
    refine ⟨r.sub hB', ?_⟩
    obtain ⟨⟨h₁, t₁, rfl⟩, _⟩ := hg
    obtain ⟨⟨h₂, t₂, rfl⟩, k⟩ := t
    exact ⟨⟨h₂, t₂, rfl⟩, fun b o e => k b o (hLs b o e) (by have := C.toInCall.keep b o e; exact this)⟩
  | _ => obtain ⟨_, _, _, _, e, _⟩ := q; exact e.elim
theorem fnA_K {G : Gd} {n : Nat} {K : Frag} (hK : G.K = K) {f : Addr} {body : List Stmt} (ρ : Loc) {ds : List D} {kns : List Str} {kds : List D} {d : D} (bv : List Value → List Value → List Value)
    (ho : isFnAt K f = true) (hcd : codeIn K (fnAt K f).code (fnAt K f).qualname = true) (hbody : (fnAt K f).body = .stmts body)
    (hbind : ∀ S (vs ks : List Value), vs.length = ds.length → ks.length = kds.length → peek K S (bindArgs (fnAt K f) ⟨vs, kns.zip ks⟩) = some ((ρ.map (·.1)).zip (bv vs ks))) (hrep : ∀ X h vs ks, RepAll X h vs ds → RepAll X h ks kds → RepAll X h (bv vs ks) (ρ.map (·.2)))
    (hclo : (fnAt K f).closure = []) (hnd : noDup (ρ.map (·.1)) = true)
    (hkind : ((ρ.map (·.1)).all fun x => (fnAt K f).scope.names.lookup x == some .local || (fnAt K f).scope.names.lookup x == some .cell) = true)
    (hgl : (fnAt K f).globals = mainGlobals) (hbl : (fnAt K f).builtins = builtinsNs)
    (hco : (fnAt K f).scope.isCoroutine = false) (hgen : (fnAt K f).scope.isGenerator = false) (hk : (fnAt K f).scope.kind = .function)
    (h : ∀ X L, Ex G n (callEnvC (fnAt K f) L f) ρ [] [body] (.fn X d)) : FnA G (n + 1) (.ref f) ds kns kds d := by
  subst hK
  obtain ⟨oc, od, osl, e⟩ := fnAt_of ho
  refine fn_ofB bv e hcd hbody (ns := ρ.map (·.1)) (ds' := ρ.map (·.2)) hbind hrep hclo (nodup_of hnd) (by simp) hkind hgl hbl hco hgen hk ?_
  intro X L
  have : (ρ.map (·.1)).zip (ρ.map (·.2)) = ρ := by
    clear h hkind hnd hrep hbind
    induction ρ with
    | nil => rfl
    | cons x r ih => simp [List.zip_map']
  rw [this]; exact h X L
section
variable {G : Gd} {n : Nat} {env : Env} {ρ : Loc} {ow : Own}
theorem ev_callK {fe : Expr} {f : Addr} {e : Expr} {es : List Expr} {k : Str} {ke : Expr} {pos kp : Pos} {ds : List D} {kd d : D} (hf : Ev G n env ρ ow fe (.raw (.ref f))) (hk : keepIn G.K (.ref f) = true) (ha : EvAll G n env ρ ow (e :: es) ds) (hs : noStar (e :: es) = true) (hke : Ev G n env ρ ow ke kd)
    (h : FnA G n (.ref f) ds [k] [kd] d) (hattr : notAttr fe = true) : Ev G n env ρ ow (.Call fe (e :: es) [⟨some k, ke, kp⟩] pos) d := .mk <| fun X A s E R F => by
  have he : eval (.Call fe (e :: es) [⟨some k, ke, kp⟩] pos) env = (do callWith pos (← eval fe env) [] (backTo pos (starEach (e :: es) env)) (backToKw pos (keywordEach [⟨some k, ke, kp⟩] env))) := call_eq hattr
  rw [he]
  refine wpAny_bind (wpAny_mono (hf.go X A s E R F) (fun v s₁ q => ?_) fun _ _ x => x)
  obtain ⟨q, g⟩ := q
  cases q
  have F₁ := F.keeps g
  refine callWith_KW (G.X.keeps F₁.base) hk rfl (wpAny_mono (ha.go pos X A s₁ E R F₁) (fun vs s₂ q₂ => ?_) fun _ _ x => x) (by rw [Bool.or_eq_false_iff]; exact ⟨by rw [starEach_cons hs]; exact backTo_any (noStar_tail hs), rfl⟩) (starEach_cons hs)
  have F₂ := F₁.keeps q₂.2
  have hback : (backToKw pos (keywordEach [⟨some k, ke, kp⟩] env)).map (·.2) = [(do let v ← eval ke env; standAt pos; pure v)] := rfl
  rw [hback]
  refine wpAny_evalAll_cons (wpAny_bind (wpAny_mono (hke.go X A s₂ E R F₂) (fun kv s₃ q₃ => wpAny_bind (wpAny_standAt (wpAny_pure (wpAny_evalAll_nil ?_)))) fun _ _ x => x))
  have F₃ := F₂.keeps q₃.2
  refine ⟨G.X.keeps F₃.base, ?_⟩
  have := h.go X A s₃ E vs [kv] R F₃.base F₃.live (q₂.1.keeps q₃.2.heap) (.cons q₃.1 .nil)
  exact wpAny_mono this (fun v s₄ q₄ => ⟨q₄.1, ((g.trans q₂.2).trans q₃.2).trans q₄.2⟩) fun _ _ x => x
end
section
variable {G : Gd} {n : Nat} {env : Env} {ρ : Loc} {ow : Own}
theorem tst_or_yes {e : Expr} {es : List Expr} {pos : Pos} (h : Tst G n env ρ ow e true) : Tst G n env ρ ow (.BoolOp .Or (e :: es) pos) true := by
  have := tst_or (c := true) (es := es) (pos := pos) h fun q => by cases q
  exact this
theorem tst_or_no {e : Expr} {es : List Expr} {pos : Pos} {c : Bool} (h : Tst G n env ρ ow e false) (r : Tst G n env ρ ow (.BoolOp .Or es pos) c) : Tst G n env ρ ow (.BoolOp .Or (e :: es) pos) c := by
  have := tst_or h fun _ => r
  simpa using this
theorem tst_and_no {e : Expr} {es : List Expr} {pos : Pos} (h : Tst G n env ρ ow e false) : Tst G n env ρ ow (.BoolOp .And (e :: es) pos) false := by
  have := tst_and (c := true) (es := es) (pos := pos) h fun q => by cases q
  exact this
theorem tst_and_yes {e : Expr} {es : List Expr} {pos : Pos} {c : Bool} (h : Tst G n env ρ ow e true) (r : Tst G n env ρ ow (.BoolOp .And es pos) c) : Tst G n env ρ ow (.BoolOp .And (e :: es) pos) c := by
  have := tst_and h fun _ => r
  simpa using this
theorem tstE {e : Expr} {b b' : Bool} (h : Tst G n env ρ ow e b) (q : b = b') : Tst G n env ρ ow e b' := q ▸ h
end
end
section
open Builtin Builtin.Str in
theorem translate_text {prog : Program} {w : World} {A : Around} {E : Value → Shared → Prop} {s : Shared} {c d : Nat} {da : Addr} {t : Tok} {P : PySem.Fin → Shared → Prop} (hc : c < 128)
    (h : ∀ (A : Around) (E : Value → Shared → Prop) (t0 : Nat) (Q : Mapped → Shared → Prop), (∀ tk, Q (.text (tx [92, c])) { s with toks := tk }) → wpAny (model prog w) A (tableLookup (.ref da) c) Q E { s with toks := t0 })
    (hP : ∀ t' tk, P (.done (.ret (.str (tx [92, c]) t'))) { s with toks := tk }) : wpAny (model prog w) A (Builtin.«str.translate» ⟨[.str (tx [c]) t, .ref da], []⟩) P E s := by
  unfold Builtin.«str.translate»
  refine wpAny_bind (wpAny_of_eq (a := (.str (tx [c]) t, tx [c], .ref da)) (by rfl) ?_)
  have h0 : tooLong 0 = false := by decide
  have h2 : tooLong 2 = false := by decide
  simp [hc, Str.length, h0]
  refine wpAny_bind (h _ _ s.toks _ fun tk => ?_)
  simp
  refine wpAny_bind (wpAny_rule (wpAny_bind (h _ _ _ _ fun tk => ?_)))
  simp [h2]
  refine wpAny_bind (wpAny_mkStr (wpAny_pure ?_) (by show 2 ≤ _; decide))
  exact hP _ _
open Builtin Builtin.Str in
theorem translate_keep {prog : Program} {w : World} {A : Around} {E : Value → Shared → Prop} {s : Shared} {c : Nat} {da : Addr} {t : Tok} {P : PySem.Fin → Shared → Prop} (hc : c < 128)
    (h : ∀ (A : Around) (E : Value → Shared → Prop) (Q : Mapped → Shared → Prop), A.handled = none → (∀ s', Grow s s' → Q .keep s') → wpAny (model prog w) A (tableLookup (.ref da) c) Q E s) (hA : A.handled = none)
    (hP : ∀ s', Grow s s' → ∀ t' tk, P (.done (.ret (.str (tx [c]) t'))) { s' with toks := tk }) : wpAny (model prog w) A (Builtin.«str.translate» ⟨[.str (tx [c]) t, .ref da], []⟩) P E s := by
  unfold Builtin.«str.translate»
  refine wpAny_bind (wpAny_of_eq (a := (.str (tx [c]) t, tx [c], .ref da)) (by rfl) ?_)
  have h0 : tooLong 0 = false := by decide
  have h1 : tooLong 1 = false := by decide
  simp [hc, Str.length, h0]
  refine wpAny_bind (h _ _ _ hA fun s' g => ?_)
  simp [h1]
  refine wpAny_bind (wpAny_mkStr (wpAny_pure ?_) (by show 1 ≤ _; decide))
  exact hP _ g _ _
open Builtin Builtin.Str in
theorem lookup_text {prog : Program} {w : World} {A : Around} {E : Value → Shared → Prop} {s : Shared} {c : Nat} {l : List Nat} {da : Addr} {t : Tok} {f : Int → Option Value} {Q : Mapped → Shared → Prop} (hm : s.heap.MapOf (intKind prog w) da f) (hv : f (c : Int) = some (.str (tx l) t))
    (hQ : ∀ tk, Q (.text (tx l)) { s with toks := tk }) : wpAny (model prog w) A (tableLookup (.ref da) c) Q E s := by
  unfold tableLookup
  refine wpAny_bind (wpAny_attempt (wpAny_bind (wpAny_mkInt (wpAny_getItem_of (intKind_is prog w _ _) (s := { s with toks := s.toks + 1 }) hm hv ?_))))
  dsimp only
  exact wpAny_pure (hQ _)
open Builtin Builtin.Str in
theorem lookup_keep {prog : Program} {w : World} {A : Around} {E : Value → Shared → Prop} {s : Shared} {c : Nat} {da : Addr} {f : Int → Option Value} {Q : Mapped → Shared → Prop} (hm : s.heap.MapOf (intKind prog w) da f) (hd : (da == sysModules) = false) (hh : A.handled = none) (hv : f (c : Int) = none)
    (hQ : ∀ s', Grow s s' → Q .keep s') : wpAny (model prog w) A (tableLookup (.ref da) c) Q E s := by
  unfold tableLookup
  refine wpAny_bind (wpAny_attempt (wpAny_bind (wpAny_mkInt (wpAny_getItem_missing_of (intKind_is prog w _ _) hd hh (s := { s with toks := s.toks + 1 }) hm hv fun h' e he => ?_))))
  dsimp only
  obtain ⟨ob, tt, ho, hcl, hda⟩ := he.there
  refine wpAny_bind (wpAny_isInstance (T := "KeyError") (b := true) ⟨ob, ho, hcl⟩ (by rw [isSubtype_type]; kernel_rfl) ?_)
  rw [if_pos rfl]
  exact wpAny_bind (wpAny_rule (wpAny_pure (hQ _ ⟨⟨_, _, rfl⟩, he.keeps⟩)))
noncomputable def dictEs (K : Frag) (a : Addr) : Array DictEntry := match K.lookup a with | some ⟨_, _, .dict es _, _⟩ => es | _ => #[]
noncomputable def isIntDict (K : Frag) (a : Addr) : Bool := match K.lookup a with
  | some ⟨.type "dict", none, .dict es _, sl⟩ => sl.isEmpty && es.toList.all fun e => match e.key with | .int k _ => e.hash == hashInt k | _ => false
  | _ => false
set_option tactic.hygienic true in
theorem intDict_map {K : Frag} {a : Addr} {h : Heap} {prog : Program} {w : World} (hK : K.In h) (hd : isIntDict K a = true) : h.MapOf (intKind prog w) a (findBy Value.isInt (dictEs K a)) := by
  unfold isIntDict at hd
  unfold dictEs
  split at hd
  · rename_i es ep sl e
    simp only [Bool.and_eq_true, List.all_eq_true] at hd
    rw [e]
    have hsl : sl = #[] := by simpa using hd.1
    subst hsl
    refine ⟨_, es, ep, hK _ _ e, ⟨rfl, rfl, rfl⟩, rfl, fun en hen => ?_, fun k => rfl⟩
    have := hd.2 en (by simpa using hen)
    split at this
    · rename_i k t hk
      exact ⟨k, by show Value.isInt k en.key = true; rw [hk]; simp [Value.isInt], by have h2 : en.hash = hashInt k := by simpa using this
                                                                                     exact h2⟩
    · cases this
  · cases hd
section
variable {G : Gd} {n : Nat}
theorem fn_translate_text {c : Nat} {da : Addr} (hc : c < 128) (hd : isIntDict G.K da = true) (hv : ∃ t, findBy Value.isInt (dictEs G.K da) (c : Int) = some (.str (tx [92, c]) t)) : FnIs G n (.builtin "str.translate") [.str [c], .raw (.ref da)] (.str [92, c]) := .mk fun X A s E vs R hb hX ra => by
  obtain ⟨_, _, rfl, r, r'⟩ := ra.two
  cases r; cases r'
  obtain ⟨t, hv⟩ := hv
  refine wpAny_call_entry F.slot_str_translate (typeIs_str _ _ _) F.entry_str_translate ?_ (F.args_str_translate_2 _ _)
  exact translate_text (d := 0) hc (fun A E t0 Q hQ => lookup_text (s := { s with toks := t0 }) (intDict_map (G.X.keeps hb) hd) hv hQ) (fun t' tk => ⟨_, rfl, .str _ _, .toks _ _⟩)
theorem fn_translate_keep {c : Nat} {da : Addr} (hc : c < 128) (hs : (da == sysModules) = false) (hd : isIntDict G.K da = true) (hv : findBy Value.isInt (dictEs G.K da) (c : Int) = none) : FnIs G n (.builtin "str.translate") [.str [c], .raw (.ref da)] (.str [c]) := .mk fun X A s E vs R hb hX ra => by
  obtain ⟨_, _, rfl, r, r'⟩ := ra.two
  cases r; cases r'
  refine wpAny_call_entry F.slot_str_translate (typeIs_str _ _ _) F.entry_str_translate ?_ (F.args_str_translate_2 _ _)
  refine translate_keep hc (fun A E Q hA hQ => lookup_keep (intDict_map (G.X.keeps hb) hd) hs hA hv hQ) R.hd (fun s' g t' tk => ⟨_, rfl, .str _ _, ?_⟩)
  exact g.trans (.toks _ _)
end
end
section
theorem l_ga : Slot "list" "__getattribute__" "list.__getattribute__" := .of (owner := "list") (n := "__getattribute__") (by rw [typeLookup_type, builtinLookup_eq_fast]; kernel_rfl) (by decide +kernel) (by decide +kernel) (by decide +kernel)
    (by first | exact .inl (by decide +kernel) | exact .inr (by decide +kernel)) (by rw [isSubtype_type]; kernel_rfl)
theorem l_entry : entryFor table "list.__getattribute__" = some Builtin.«object.__getattribute__» :=
  entryFor_alias (id' := "object.__getattribute__") (by kernel_rfl) (by first | rfl | decide +kernel) (by decide +kernel) (by kernel_rfl)
theorem l_args (a b : Value) : argsOk "list.__getattribute__" ⟨[a, b], []⟩ := by unfold argsOk; kernel_rfl
theorem l_append : typeLookup (.type "list") "append" = pure (some (.builtin "list.append")) := by rw [typeLookup_type, builtinLookup_eq_fast]; kernel_rfl
theorem md_get : Slot "method_descriptor" "__get__" "method_descriptor.__get__" := .of (owner := "method_descriptor") (n := "__get__") (by rw [typeLookup_type, builtinLookup_eq_fast]; kernel_rfl) (by decide +kernel) (by decide +kernel) (by decide +kernel)
    (by first | exact .inl (by decide +kernel) | exact .inr (by decide +kernel)) (by rw [isSubtype_type]; kernel_rfl)
theorem md_set : typeLookup (.type "method_descriptor") "__set__" = pure none := by rw [typeLookup_type, builtinLookup_eq_fast]; kernel_rfl
theorem md_del : typeLookup (.type "method_descriptor") "__delete__" = pure none := by rw [typeLookup_type, builtinLookup_eq_fast]; kernel_rfl
theorem md_entry : entryFor table "method_descriptor.__get__" = some Builtin.«method_descriptor.__get__» := entryFor_of_tree (by kernel_rfl)
theorem md_args (a b c : Value) : argsOk "method_descriptor.__get__" ⟨[a, b, c], []⟩ := by unfold argsOk; kernel_rfl
theorem append_ty : typeOf (.builtin "list.append") = pure (.type "method_descriptor") := by show builtinType _ = _; rw [builtinType_eq_fast]; kernel_rfl
theorem sub_list : isSubtype (.type "list") (.type "list") = pure true := by rw [isSubtype_type]; kernel_rfl
theorem append_owner : (".".intercalate ("list.append".cutAt '.').dropLast) = "list" := by
  have e0 : "list.append".cutAt '.' = ["list", "append"] := by first | rfl | decide +kernel
  rw [e0]; decide +kernel
noncomputable def bmObj (id : String) (a : Addr) : Obj := { cls := .type "builtin_function_or_method", data := .fields #[.builtin id, .ref a] }
theorem append_told : Manifest.toldItsClass.contains "list.append" = false := by decide +kernel
section
variable {prog : Program} {w : World} {A : Around} {E : Value → Shared → Prop} {h : Heap} {g : Array GenState} {d : Drawn} {t : Nat} {os : OsState} {a : Addr} {xs : Array Value} {n : Nat}
noncomputable abbrev lob (xs : Array Value) (n : Nat) : Obj := { cls := .type "list", data := .seq xs n }
set_option maxHeartbeats 1000000 in
theorem append_get {R : Result → Shared → Prop} (hx : h.get? a = some (lob xs n)) (hq : R (.ok (.ret (.ref h.objs.size))) ⟨h.push (bmObj "list.append" a), g, d, t, os⟩) :
    codeAny (model prog w) A (.call (.builtin "method_descriptor.__get__") ⟨[.builtin "list.append", .ref a, .type "list"], []⟩) R ⟨h, g, d, t, os⟩ := by
  have hT : (⟨h, g, d, t, os⟩ : Shared).TypeIs (.ref a) "list" := ⟨_, hx, rfl⟩
  have hT5 : (⟨h, g, d, t, os⟩ : Shared).TypeIs (.builtin "list.append") "method_descriptor" := append_ty
  have f8 : isSubtype (.type "list") (.type (".".intercalate ("list.append".cutAt '.').dropLast)) = pure true := by rw [append_owner]; exact sub_list
  refine codeAny_call_builtin md_get.plain md_entry (md_get.check _ _ _ _ _ _ _ _ hT5 (md_args _ _ _) ?_)
  unfold Builtin.«method_descriptor.__get__»
  refine wpAny_bind (wpAny_of_eq (a := (.builtin "list.append", some (.ref a), some (.type "list"))) (by first | rfl | kernel_rfl) ?_)
  dsimp only
  rw [append_told, if_neg Bool.false_ne_true]
  refine wpAny_bind ?_
  · refine wpAny_bind (wpAny_of_eq (a := (("append" : Str), .type "list")) (by first | rfl | kernel_rfl) ?_)
    refine wpAny_bind (wpAny_isInstance (T := "list") (b := true) hT sub_list ?_)
    refine wpAny_pure ?_
    exact wpAny_bind (wpAny_newObj_type (wpAny_pure hq))
theorem append_entry {tk : Tok} {Q : PySem.Fin → Shared → Prop} (hx : h.get? a = some (lob xs n)) (hq : Q (.done (.ret (.ref h.objs.size))) ⟨h.push (bmObj "list.append" a), g, d, t, os⟩) :
    wpAny (model prog w) A (Builtin.«object.__getattribute__» ⟨[.ref a, .str "append" tk], []⟩) Q E ⟨h, g, d, t, os⟩ := by
  have hT : (⟨h, g, d, t, os⟩ : Shared).TypeIs (.ref a) "list" := ⟨_, hx, rfl⟩
  have hT5 : (⟨h, g, d, t, os⟩ : Shared).TypeIs (.builtin "list.append") "method_descriptor" := append_ty
  have f4 := l_append
  have f5 := append_ty
  have f6 := md_get.lookup
  have f7 := md_set
  have f8 := md_del
  repeat (any_goals (first | assumption | wp_step))
  refine append_get hx ?_
  repeat (any_goals (first | assumption | wp_step))
theorem append_call {tk : Tok} {R : Result → Shared → Prop} (hx : h.get? a = some (lob xs n)) (hq : R (.ok (.ret (.ref h.objs.size))) ⟨h.push (bmObj "list.append" a), g, d, t, os⟩) :
    codeAny (model prog w) A (.call (.builtin "list.__getattribute__") ⟨[.ref a, .str "append" tk], []⟩) R ⟨h, g, d, t, os⟩ :=
  codeAny_call_builtin l_ga.plain l_entry (l_ga.check _ _ _ _ _ _ _ _ (show (⟨h, g, d, t, os⟩ : Shared).TypeIs (.ref a) "list" from ⟨_, hx, rfl⟩) (l_args _ _) (append_entry hx hq))
theorem append_by {tk : Tok} {fill expr : Bool} {Q : Value → Shared → Prop} (hx : h.get? a = some (lob xs n)) (hq : Q (.ref h.objs.size) ⟨h.push (bmObj "list.append" a), g, d, t, os⟩) : wpAny (model prog w) A (getAttrBy (.ref a) (.str "append" tk) fill expr) Q E ⟨h, g, d, t, os⟩ := by
  have hT : (⟨h, g, d, t, os⟩ : Shared).TypeIs (.ref a) "list" := ⟨_, hx, rfl⟩
  have f2 := l_ga.lookup
  have f3 := l_ga.bind (.ref a)
  have hx0 : (expr && onTheHeap (Value.builtin "list.__getattribute__")) = false := by cases expr <;> rfl
  repeat (any_goals (first | assumption | wp_step))
  refine append_call hx ?_
  repeat (any_goals (first | assumption | wp_step))
theorem append_attr {expr : Bool} {Q : Value → Shared → Prop} (hx : h.get? a = some (lob xs n)) (hq : Q (.ref h.objs.size) ⟨h.push (bmObj "list.append" a), g, d, t + 1, os⟩) : wpAny (model prog w) A (getAttr (.ref a) "append" expr) Q E ⟨h, g, d, t, os⟩ := by
  unfold getAttr
  repeat (any_goals (first | assumption | with_reducible apply append_by hx | wp_step))
end
section
variable {prog : Program} {w : World} {A : Around} {E : Value → Shared → Prop} {s : Shared} {a q : Addr} {xs : Array Value} {n : Nat}
theorem sub_list_module : isSubtype (.type "list") (.type "module") = pure false := by rw [isSubtype_type]; kernel_rfl
theorem append_quiet {as : Args} : (Code.builtin "list.append" as).quiet = true := Code.quiet_builtin _ (by decide +kernel)
theorem append_tail (x y : Value) : (match Manifest.signature? "list.append" with | some sig => Bind.checkArgs "list.append" { sig with full := s!"{Bind.lastOf "list"}.{Bind.lastOf "list.append"}" } ⟨[x, y], []⟩ | none => pure ()) = pure () := by
  rw [signature?_of (id := "list.append") (n := ['d', 'n', 'e', 'p', 'p', 'a']) (o := ['t', 's', 'i', 'l']) (by kernel_rfl) F.owner_list]; kernel_rfl
theorem append_kind : builtinKind "list.append" = some .method := by decide +kernel
theorem append_varargs : Manifest.varargsMethods.contains "list.append" = false := by decide +kernel
theorem check_append {x : Value} {Q : Unit → Shared → Prop} (hT : s.TypeIs (.ref a) "list") (hx : s.heap.get? a = some (lob xs n)) (h : Q () s) : wpAny (model prog w) A (checkBoundCall "list.append" ⟨[.ref a, x], []⟩) Q E s := by
  have h2 := append_tail (.ref a) x
  unfold checkBoundCall
  cases h1 : Manifest.signature? "list.append" with
  | none => exact wpAny_pure h
  | some sig =>
  rw [h1] at h2
  dsimp only at h2 ⊢
  rw [append_kind]
  dsimp only
  rw [if_neg (by decide)]
  refine wpAny_bind (wpAny_isInstance (T := "list") (b := false) hT sub_list_module ?_)
  rw [append_varargs]
  simp only [Bool.or_self, Bool.false_eq_true, if_false]
  unfold isType
  refine wpAny_bind (wpAny_bind (m := loadHead a) (wpAny_load hx (wpAny_pure ?_)))
  dsimp only
  rw [if_neg Bool.false_ne_true]
  refine wpAny_bind (wpAny_typeOf hT ?_)
  exact wpAny_of_eq h2 h
theorem bm_append {x : Value} {Q : Value → Shared → Prop} {dd : Option Addr} {sl : Array (Option Value)} (hq : s.heap.get? q = some { cls := .type "builtin_function_or_method", dict := dd, data := .fields #[.builtin "list.append", .ref a], slots := sl }) (hx : s.heap.get? a = some (lob xs n)) (hsz : xs.size ≤ sizeLine)
    (h : ∀ h', h'.PlainList a (xs.push x) → Heap.SameBut a s.heap h' → Q .none { s with heap := h' }) : wpAny (model prog w) A (call (.ref q) [x]) Q E s := by
  refine wpAny_call (codeAny_of_tree ?_)
  show wpAny _ A.in1 (callAny (.ref q) ⟨[x], []⟩) _ _ s
  simp only [callAny]
  refine wpAny_bind (wpAny_load hq ?_)
  simp only [show (Value.type "builtin_function_or_method" == Value.type "method" || Value.type "builtin_function_or_method" == Value.type "builtin_function_or_method" || Value.type "builtin_function_or_method" == Value.type "method-wrapper") = true by decide, if_true]
  show wpAny _ A.in1 (if (Value.type "builtin_function_or_method" != Value.type "method") = true then (do checkBoundCall "list.append" ⟨[.ref a, x], []⟩; again (.builtin "list.append" ⟨[.ref a, x], []⟩)) else _) _ _ _
  rw [if_pos (by decide)]
  refine wpAny_bind (check_append ⟨_, hx, rfl⟩ hx ?_)
  refine wpAny_bind (wpAny_pure (wpAny_pure ?_))
  refine ⟨append_quiet, codeAny_builtin entry_list_append ?_⟩
  show wpAny _ _ (updateSeq a (·.push x) >>= fun _ => ret .none) _ _ s
  refine wpAny_bind ?_
  refine wpAny_updateSeq hx rfl (wpAny_pure (h _ ⟨n + 1, ?_⟩ (Heap.SameBut.update ..)))
  rw [Heap.get?_update_self _ hx (by rw [Obj.mapSeq_push_plain]; rfl), Obj.mapSeq_push_plain]
end
section
variable {G : Gd} {n : Nat} {env : Env} {ρ : Loc} {ow : Own} {bs : List (List Stmt)} {o : Out}
theorem ev_bound {oe : Expr} {apos : Pos} {a : Addr} {ds : List D} (he : eval (.Attribute oe "append" apos) env = (do
      let o ← eval oe env
      standAt apos.atName
      let r ← holding [o] (getAttr o "append" true)
      letTemporaryGo oe o r
      pure r)) (hg : ∀ o r, letTemporaryGo oe o r = pure ()) (ho : Ev G n env ρ ow oe (own a)) (ha : (a, OO.list ds) ∈ ow) : Ev G n env ρ ow (.Attribute oe "append" apos) (.bm "list.append" a) := .mk fun X A s E R F => by
  rw [he]
  refine wpAny_bind (wpAny_mono (ho.go X A s E R F) (fun v s₁ q => ?_) fun _ _ y => y)
  obtain ⟨q, g⟩ := q
  cases q
  obtain ⟨vs, ⟨k, hl⟩, ra⟩ := ((F.keeps g).owns _ ha).1
  obtain ⟨h, gn, dr, t, os⟩ := s₁
  refine wpAny_bind (wpAny_standAt (wpAny_bind (wpAny_holding (append_attr (xs := vs.toArray) (n := k) hl ?_))))
  refine wpAny_bind (wpAny_of_eq (hg _ _) (wpAny_pure ?_))
  have hX := (F.live.keeps g.heap).new
  refine ⟨.bm ⟨bmObj "list.append" a, Heap.get?_push_size _ rfl, rfl, rfl⟩ hX, g.trans ?_⟩
  exact ⟨⟨_, _, rfl⟩, fun _ _ e => Heap.get?_push_of_some _ e⟩
theorem callWith_bm {prog : Program} {w : World} {A : Around} {E : Value → Shared → Prop} {s : Shared} {env : Env} {pos : Pos} {u a : Addr} {e : Expr} {Q : Value → Shared → Prop} (hs : noStar [e] = true)
    (h : wpAny (model prog w) A (spliced (backTo pos (starEach [e] env))) (fun vs s₁ => IsBM s₁.heap u "list.append" a ∧ wpAny (model prog w) A (call (.ref u) vs) Q E s₁) E s) :
    wpAny (model prog w) A (callWith pos (.ref u) [] (backTo pos (starEach [e] env)) []) Q E s := by
  rw [starEach_cons hs] at h ⊢
  have hE : wpAny (model prog w) A (evalArgs (.ref u) true (backTo pos ((false, eval e env) :: starEach [] env)) []) (fun x s₁ => IsBM s₁.heap u "list.append" a ∧ wpAny (model prog w) A (call (.ref u) ([] ++ x.pos) x.kw) Q E s₁) E s := by
    refine evalArgs_plain ?_
    exact h
  unfold callWith
  refine wpAny_bind (wpAny_holding (wpAny_mono hE (fun x s₁ h₁ => wpAny_bind (wpAny_standAt ?_)) fun _ _ x => x))
  obtain ⟨⟨ob, ho, hc, hd⟩, hcall⟩ := h₁
  obtain ⟨cls, dd, data, sl⟩ := ob
  simp only at hc hd
  subst hc hd
  have hplain : (backTo pos ((false, eval e env) :: starEach [] env)).any (·.1) = false := rfl
  simp only [hplain, List.any_nil, Bool.or_false]
  refine wpAny_bind (m := keeperOf (.ref u)) ?_
  unfold keeperOf
  refine wpAny_bind (wpAny_load ho ?_)
  simp only [show (Value.type "builtin_function_or_method" != Value.type "method") = true by decide, show (Value.type "builtin_function_or_method" == Value.type "builtin_function_or_method" || Value.type "builtin_function_or_method" == Value.type "method-wrapper") = true by decide, if_true]
  refine wpAny_pure ?_
  exact wpAny_bind (wpAny_mono hcall (fun r s₂ hr => wpAny_bind (wpAny_holding (wpAny_point (wpAny_pure hr)))) fun _ _ x => x)
theorem ex_add {fe e : Expr} {cpos pos : Pos} {rest : List Stmt} {a : Addr} {ds : List D} {d : D} {ow' : Own} (hattr : notAttr fe = true) (ho : Ev G n env ρ ow fe (.bm "list.append" a)) (hx : OSet a (.list ds) (.list (ds ++ [d])) ow ow') (he : EvAll G n env ρ ow [e] [d]) (hs : noStar [e] = true) (hsz : ds.length ≤ sizeLine)
    (hi : interactive env = false) (hsw : swapsWith (.Call fe [e] [] cpos) none pos.line env = pure false)
    (h : Ex G n env ρ ow' (rest :: bs) o) : Ex G n env ρ ow ((.Expr (.Call fe [e] [] cpos) pos :: rest) :: bs) o := .mk <| fun X A s E R B F => by
  refine wpAny_execs_cons (wpAny_Expr_any (Call_ (wpAny_mono (ho.go X A s E R F) (fun v s₁ q => ?_) fun _ _ x => x) (call_eq hattr)) hi hsw)
  obtain ⟨q, g⟩ := q
  cases q with | @bm u hb hqX =>
  have F₁ := F.keeps g
  refine callWith_bm (a := a) hs (wpAny_mono (he.go cpos X A s₁ E R F₁) (fun vs s₂ q₂ => ?_) fun _ _ x => x)
  obtain ⟨q₂, g₂⟩ := q₂
  have hb₂ : IsBM s₂.heap u "list.append" a := by obtain ⟨ob, e1, e2⟩ := hb; exact ⟨ob, g₂.heap _ _ e1, e2⟩
  refine ⟨hb₂, ?_⟩
  obtain ⟨xv, rfl, r⟩ := q₂.one
  have F₂ := F₁.keeps g₂
  obtain ⟨vs, ⟨k, hl⟩, ra⟩ := (F₂.owns _ hx.mem).1
  obtain ⟨⟨cls, dd, data, sl⟩, ho', hc, hd⟩ := hb₂
  simp only at hc hd
  subst hc hd
  refine bm_append (xs := vs.toArray) (n := k) ho' hl (by rw [List.size_toArray, ra.length]; exact hsz) fun h' hl' hs' => ?_
  have haX := (F₂.owns _ hx.mem).2
  have hm : Same X s₂.heap h' := .of_but hs' (.inl haX)
  have e1 : vs.toArray.push xv = (vs ++ [xv]).toArray := by simp
  rw [e1] at hl'
  have F₃ : Fits G env X ρ ow' { s₂ with heap := h' } := F₂.setOwn (tk := s₂.toks) hx hs' ⟨vs ++ [xv], hl', (ra.mono hm).append (.cons (r.mono hm) .nil)⟩
  exact h.from R B F₃ ((g.trans g₂).turn.trans (.but (t := s₂.toks) hs' (.inr (.inr (List.mem_map.mpr ⟨_, hx.mem, rfl⟩))))) fun b q => .inl (mut_same hx.keys q)
end
theorem ex_freeze_head {G : Gd} {n : Nat} {env : Env} {ρ : Loc} {ow : Own} {bs : List (List Stmt)} {o : Out} (x : Str) {a : Addr} {ds : List D} (hx : ρ.lookup x = some (own a)) (hb : a ∉ o.base) (h : Ex G n env ((x, .list ds) :: ρ) ow bs o) : Ex G n env ρ ((a, .list ds) :: ow) bs o := .mk fun X A s E R B F => by
  have hn : a ∉ ow.map (·.1) := (List.nodup_cons.mp F.nd).1
  exact (ex_freeze (ow := (a, .list ds) :: ow) x hx (List.mem_cons_self ..) (fun p hp => List.mem_cons_of_mem _ hp) hn (fun h => (List.nodup_cons.mp h).2) hb h).go X A s E R B F
end
section
theorem truth_list {ds : List D} (h : ds.length < 2 ^ 62) : TruthIs (.list ds) (!ds.isEmpty) := .mk <| fun prog w X A s E v r => by
  cases r with | list hl fl ra =>
  have hlen := ra.length
  refine wpAny_truthy_list hl.isList (by rw [List.size_toArray]; omega) ⟨?_, .toks _ _⟩
  cases ds with
  | nil => have e := len0 hlen; subst e; rfl
  | cons d ds => obtain ⟨v, r, rfl⟩ := List.exists_cons_of_length_eq_add_one hlen; rfl
theorem item_listN {ds : List D} {d : D} (h : ds.getLast? = some d) (hl : ds.length < 2 ^ 62) : ItemIs (.list ds) (.int (-1)) d := .mk <| fun prog w X A s E value slice v₁ v₂ hs _ r₁ r₂ => by
  cases r₁ with | list hl fl ra =>
  cases r₂
  have hlen := ra.length
  have h1 : ds[ds.length - 1]? = some d := by rw [List.getLast?_eq_getElem?] at h; exact h
  have hpos : 0 < ds.length := by cases ds with | nil => cases h | cons => simp
  obtain ⟨v, hv, rv⟩ := ra.get h1
  refine tail_any hl.isList.typeIs slot_list_getitem.lookup (wpAny_getItem_list_neg hl.isList (by decide) (by rw [List.size_toArray]; omega) (by decide) ?_ ⟨rv, .refl _⟩) hs
  have e : (-1 + ((‹List Value›.toArray.size : Nat) : Int)).toNat = ds.length - 1 := by rw [List.size_toArray]; omega
  rw [e]; simpa using hv
theorem cmp_notin_str {l : List Nat} {c : Nat} : CmpIs .NotIn (.str [c]) (.str l) (!decide (c ∈ l)) := .mk <| fun prog w X A s E v₁ v₂ _ r₁ r₂ => by
  cases r₁; cases r₂
  refine notIn_str ⟨?_, .refl _⟩
  congr 2
  exact (StrLaws.found_one (tx l) c)
theorem tst_freeze_head {G : Gd} {n : Nat} {env : Env} {ρ : Loc} {ow : Own} {e : Expr} {c : Bool} (x : Str) {a : Addr} {ds : List D} (hx : ρ.lookup x = some (own a)) (h : Tst G n env ((x, .list ds) :: ρ) ow e c) : Tst G n env ρ ((a, .list ds) :: ow) e c := .mk fun X A s E R F => by
  have hn : a ∉ ow.map (·.1) := (List.nodup_cons.mp F.nd).1
  exact (tst_freeze (ow := (a, .list ds) :: ow) x hx (List.mem_cons_self ..) (fun p hp => List.mem_cons_of_mem _ hp) hn (fun h => (List.nodup_cons.mp h).2) h).go X A s E R F
end
section
noncomputable def pit : OO := .pit fun _ _ => none
structure GrowBut (a : Addr) (s s' : Shared) : Prop where
  same : ∃ h tk, s' = { s with heap := h, toks := tk }
  heap : ∀ b o, b ≠ a → s.heap.get? b = some o → s'.heap.get? b = some o
  there : ∀ o, s.heap.get? a = some o → ∃ o', s'.heap.get? a = some o'
theorem OSet.self {a : Addr} {o : OO} : ∀ {ow : Own}, (a, o) ∈ ow → OSet a o o ow ow
  | p :: ow, h => by
    by_cases q : p = (a, o)
    · subst q; exact .head _
    · exact .tail _ (OSet.self ((List.mem_cons.mp h).resolve_left fun z => q z.symm))
theorem Fits.butAt {G : Gd} {env : Env} {X : List Addr} {ρ : Loc} {ow : Own} {s s' : Shared} {a : Addr} {o : OO} (F : Fits G env X ρ ow s) (hm : (a, o) ∈ ow) (k : GrowBut a s s') (hn : OOIs X s'.heap a o) : Fits G env X ρ ow s' ∧ Turn env ow s s' := by
  obtain ⟨ob, e⟩ := own_there (F.owns _ hm).1
  obtain ⟨ob', e'⟩ := k.there _ e
  have hup : ∀ b, b ≠ a → (s'.heap.update a fun _ => ob).get? b = s'.heap.get? b := fun b q => Heap.get?_update_ne _ _ _ _ q
  have hself : (s'.heap.update a fun _ => ob).get? a = some ob := Heap.get?_update_self _ e' (Heap.get?_some_iff.mp e).2
  obtain ⟨⟨h, tk, rfl⟩, kh, _⟩ := k
  have g : Grow s { s with heap := h.update a fun _ => ob, toks := tk } := ⟨⟨_, _, rfl⟩, fun b o eb => by
    by_cases q : b = a
    · subst q; rw [e] at eb; cases eb; exact hself
    · exact (hup b q).trans (kh b o q eb)⟩
  have F₁ := F.keeps g
  have hsz : (h.update a fun _ => ob).objs.size = h.objs.size := by simp [Heap.update]
  refine ⟨F₁.setOwn (tk := tk) (OSet.self hm) ⟨hsz.symm, fun b q => (hup b q).symm⟩ hn, ⟨⟨h, tk, rfl⟩, fun b o hb eb => kh b o (fun q => hb (.inr (.inr (List.mem_map.mpr ⟨_, hm, q.symm⟩)))) eb⟩⟩
noncomputable def Out.fnT (X : List Addr) (d : D) (a : Addr) : Out := ⟨X, fun _ _ => False, fun _ _ => False, fun _ _ => False, fun r _ ow => r = d ∧ (a, pit) ∈ ow⟩
structure FnIsT (G : Gd) (n : Nat) (a : Addr) (f : Value) (ds : List D) (d : D) : Prop where
  go : ∀ (X : List Addr) (A : Around) (s : Shared) (E : Value → Shared → Prop) (vs : List Value), Room n A → G.H₀.StaysIn s.heap → Live X s.heap → RepAll X s.heap vs ds → a ∈ X → OOIs X s.heap a pit →
    wpAny (model G.prog G.w) A (call f vs) (fun v s' => Rep X s'.heap v d ∧ GrowBut a s s' ∧ OOIs X s'.heap a pit) E s
structure EvT (G : Gd) (n : Nat) (env : Env) (ρ : Loc) (ow : Own) (e : Expr) (d : D) : Prop where
  go : ∀ (X : List Addr) (A : Around) (s : Shared) (E : Value → Shared → Prop), Room n A → Fits G env X ρ ow s → wpAny (model G.prog G.w) A (eval e env) (fun v s' => Rep X s'.heap v d ∧ Fits G env X ρ ow s' ∧ Turn env ow s s') E s
theorem FnIsT.le {G : Gd} {n m : Nat} {a : Addr} {f : Value} {ds : List D} {d : D} (x : FnIsT G n a f ds d) (h : n ≤ m) : FnIsT G m a f ds d := ⟨fun X A s E vs R => x.go X A s E vs (R.le h)⟩
section
variable {G : Gd} {n : Nat} {env : Env} {ρ : Loc} {ow : Own} {bs : List (List Stmt)} {o : Out}
theorem evT_call {a : Addr} {fe : Expr} {f : Addr} {e : Expr} {es : List Expr} {pos : Pos} {ds : List D} {d : D} (hf : Ev G n env ρ ow fe (.raw (.ref f))) (hk : keepIn G.K (.ref f) = true) (ha : EvAll G n env ρ ow (e :: es) ds) (hs : noStar (e :: es) = true)
    (h : FnIsT G n a (.ref f) ds d) (hm : (a, pit) ∈ ow) (hattr : notAttr fe = true) : EvT G n env ρ ow (.Call fe (e :: es) [] pos) d := .mk <| fun X A s E R F => by
  refine Call_ (wpAny_mono (hf.go X A s E R F) (fun v s₁ q => ?_) fun _ _ x => x) (call_eq hattr)
  obtain ⟨q, g⟩ := q
  cases q
  have F₁ := F.keeps g
  refine callWith_K (G.X.keeps F₁.base) hk (wpAny_mono (ha.go pos X A s₁ E R F₁) (fun vs s₂ q₂ => ⟨G.X.keeps (F₁.keeps q₂.2).base, ?_⟩) fun _ _ x => x) (starEach_cons hs) (backTo_any (noStar_tail hs))
  have F₂ := F₁.keeps q₂.2
  refine wpAny_mono (h.go X A s₂ E vs R F₂.base F₂.live q₂.1 (F₂.owns _ hm).2 (F₂.owns _ hm).1) (fun v s₃ q₃ => ?_) fun _ _ x => x
  obtain ⟨r, k, p⟩ := q₃
  obtain ⟨F₃, t⟩ := F₂.butAt hm k p
  exact ⟨r, F₃, ((g.trans q₂.2).turn).trans t⟩
theorem ex_assignT {x : Str} {px pos : Pos} {e : Expr} {rest : List Stmt} {d : D} (hk : storable env x = true) (hs : swapsWith e (some (.Name x px)) pos.line env = pure false) (he : EvT G n env ρ ow e d)
    (h : Ex G n env ((x, d) :: ρ) ow (rest :: bs) o) : Ex G n env ρ ow ((.Assign [.Name x px] e pos :: rest) :: bs) o := .mk <| fun X A s E R B F => by
  refine wpAny_execs_cons (wpAny_Assign_Name (wpAny_mono (he.go X A s E R F) (fun v s₁ q => ?_) fun _ _ y => y) hs)
  exact store_any hk q.2.1 q.1 fun h' tk F' t' _ => h.from' R B F' (q.2.2.trans t')
end
theorem fnT_of {G : Gd} {n : Nat} {a f : Addr} {oc : Value} {od : Option Addr} {osl : Array (Option Value)} {fd : FuncData} {body : List Stmt} {ns : List Str} {ds : List D} {d : D}
    (ho : G.K.lookup f = some ⟨oc, od, .func fd, osl⟩) (hcd : codeIn G.K fd.code fd.qualname = true) (hbody : fd.body = .stmts body)
    (hbind : ∀ vs : List Value, vs.length = ds.length → bindArgs fd ⟨vs, []⟩ = pure (ns.zip vs)) (hclo : fd.closure = []) (hnd : ns.Nodup) (hlen : ns.length = ds.length)
    (hkind : (ns.all fun x => fd.scope.names.lookup x == some .local || fd.scope.names.lookup x == some .cell) = true)
    (hgl : fd.globals = mainGlobals) (hbl : fd.builtins = builtinsNs)
    (hco : fd.scope.isCoroutine = false) (hgen : fd.scope.isGenerator = false) (hk : fd.scope.kind = .function)
    (h : ∀ X L, Ex G n (callEnvC fd L f) (ns.zip ds) [(a, pit)] [body] (Out.fnT X d a)) (hH : G.H₀.get? a = none) : FnIsT G (n + 1) a (.ref f) ds d := .mk <| fun X A s E vs R hb hX ra haX hp => by
  obtain ⟨oa, hoa⟩ := own_there hp
  have K₁ : G.K.In s.heap := G.X.keeps hb
  have hvl : vs.length = ds.length := ra.length
  have hkd : ∀ x ∈ ns.zip vs, fd.scope.names.lookup x.1 = some .local ∨ (fd.scope.names.lookup x.1 = some .cell ∧ ((cellsFrom (s.heap.objs.size + 1) fd.scope.names []).lookup x.1).isSome = true) := fun x hx => by
    have hx1 : x.1 ∈ ns := (List.of_mem_zip (a := x.1) (b := x.2) hx).1
    have := List.all_eq_true.mp hkind x.1 hx1
    rcases Bool.or_eq_true_iff.mp this with q | q
    · exact .inl (by simpa using q)
    · have q' : fd.scope.names.lookup x.1 = some .cell := by simpa using q
      exact .inr ⟨q', cellsFrom_some _ _ _ (.inl q')⟩
  refine wpAny_call (codeAny_call_cells R.depth (K₁ _ _ ho) rfl (G.T.nolimit.keeps hb) (codeRec_of K₁ hcd) hbody (hbind vs hvl) hclo hkd (fun s₁ C => ?_) hco hgen hk)
  have hg : Grow s s₁ := by obtain ⟨h', tk, rfl, k⟩ := C.done; exact .of k
  have hLs : ∀ b o, s.heap.get? b = some o → b ≠ a → ¬ Mut (callEnvC fd s.heap.objs.size f) [(a, pit)] b := fun b o e hba q => by
    have hlt := Heap.lt_size e
    rcases q with q | ⟨y, q⟩ | q
    · exact Nat.lt_irrefl _ (q ▸ hlt)
    · exact absurd (C.above y b (mem_of_lookup q)) (Nat.not_lt.mpr (Nat.le_of_lt hlt))
    · exact hba (by simpa using q)
  have hsep : a ≠ (callEnvC fd s.heap.objs.size f).locals ∧ ∀ n c, (callEnvC fd s.heap.objs.size f).cells.lookup n = some c → a ≠ c := by
    have hlt := Heap.lt_size hoa
    exact ⟨fun q => Nat.lt_irrefl _ (q ▸ hlt), fun n c hc q => absurd (C.above n c (mem_of_lookup hc)) (Nat.not_lt.mpr (q ▸ Nat.le_of_lt hlt))⟩
  have F : Fits G (callEnvC fd s.heap.objs.size f) X (ns.zip ds) [(a, pit)] s₁ := by
    refine ⟨fun b o e => hg.heap b o (hb b o e), hk, hgl, hbl, ⟨_, C.toInCall.ns⟩, fun x d' e => ?_, fun p q => by rw [List.mem_singleton.mp q]; exact ⟨hp.keeps hg.heap, haX⟩, by simp, hX.keeps hg.heap, fun b o e => hLs b o (hb b o e) (fun q => by rw [q, hH] at e; cases e), cells_mem_lookup C.apart, fun y c e => ⟨_, C.cell y c e⟩, fun p q => by rw [List.mem_singleton.mp q]; exact hsep⟩
    obtain ⟨v, hv, hr⟩ := zip_lookup ra e
    have hnd' : ((ns.zip vs).map (·.1)).Nodup := by rw [List.map_fst_zip (by omega)]; exact hnd
    rcases hkd (x, v) (mem_of_lookup hv) with q | ⟨q, q2⟩
    · exact .loc _ v q C.toInCall.ns (bindL_get hnd' q (.inl hv)) (hr.keeps hg.heap)
    · obtain ⟨c, hc⟩ := Option.isSome_iff_exists.mp q2
      have := C.cell x c hc
      rw [bindC_get hnd' (by show fd.scope.names.lookup x ≠ _; rw [q]; decide) (.inl hv)] at this
      exact .cell c v (.inl q) hc this (hr.keeps hg.heap)
  refine wpAny_mono ((h X s.heap.objs.size).go X _ s₁ _ R.deeper (fun _ q => q) F) (fun fl s' q => ?_) fun _ _ y => y
  obtain ⟨t, q⟩ := q
  cases fl with
  | ret v =>
    obtain ⟨d', X', ρ', ow', hB', r, ⟨e, hm⟩, F'⟩ := q
    cases e
    have hown := F'.owns _ hm
    refine ⟨r.sub hB', ?_, hown.1.subX hB'⟩
    obtain ⟨⟨h₁, t₁, rfl⟩, _⟩ := hg
    obtain ⟨⟨h₂, t₂, rfl⟩, k⟩ := t
    exact ⟨⟨h₂, t₂, rfl⟩, fun b o hba e => k b o (hLs b o e hba) (by have := C.toInCall.keep b o e; exact this), fun _ _ => own_there hown.1⟩
  | _ => obtain ⟨_, _, _, _, e, _⟩ := q; exact e.elim
theorem fnT_K {G : Gd} {n : Nat} {a : Addr} {K : Frag} (hK : G.K = K) {f : Addr} {body : List Stmt} (ρ : Loc) {d : D}
    (ho : isFnAt K f = true) (hcd : codeIn K (fnAt K f).code (fnAt K f).qualname = true) (hbody : (fnAt K f).body = .stmts body)
    (hbind : ∀ vs : List Value, vs.length = ρ.length → bindArgs (fnAt K f) ⟨vs, []⟩ = pure ((ρ.map (·.1)).zip vs)) (hclo : (fnAt K f).closure = []) (hnd : noDup (ρ.map (·.1)) = true)
    (hkind : ((ρ.map (·.1)).all fun x => (fnAt K f).scope.names.lookup x == some .local || (fnAt K f).scope.names.lookup x == some .cell) = true)
    (hgl : (fnAt K f).globals = mainGlobals) (hbl : (fnAt K f).builtins = builtinsNs)
    (hco : (fnAt K f).scope.isCoroutine = false) (hgen : (fnAt K f).scope.isGenerator = false) (hk : (fnAt K f).scope.kind = .function)
    (h : ∀ X L, Ex G n (callEnvC (fnAt K f) L f) ρ [(a, pit)] [body] (Out.fnT X d a)) (hH : G.H₀.get? a = none) : FnIsT G (n + 1) a (.ref f) (ρ.map (·.2)) d := by
  subst hK
  obtain ⟨oc, od, osl, e⟩ := fnAt_of ho
  refine fnT_of e hcd hbody (ns := ρ.map (·.1)) ?_ hclo (nodup_of hnd) (by simp) hkind hgl hbl hco hgen hk ?_ hH
  · intro vs hv; exact hbind vs (by simpa using hv)
  · intro X L
    have : (ρ.map (·.1)).zip (ρ.map (·.2)) = ρ := by
      induction ρ with
      | nil => rfl
      | cons x r ih => simp [List.zip_map']
    rw [this]; exact h X L
section
variable {G : Gd} {n : Nat} {env : Env} {ρ : Loc} {ow : Own} {bs : List (List Stmt)} {o : Out}
theorem evT_around {fe : Expr} {f : Addr} {e : Expr} {pos : Pos} {d₁ d : D} (hf : Ev G n env ρ ow fe (.raw (.ref f))) (hk : keepIn G.K (.ref f) = true) (ha : EvT G n env ρ ow e d₁) (hs : noStar [e] = true)
    (h : FnIs G n (.ref f) [d₁] d) (hattr : notAttr fe = true) : EvT G n env ρ ow (.Call fe [e] [] pos) d := .mk <| fun X A s E R F => by
  refine Call_ (wpAny_mono (hf.go X A s E R F) (fun v s₁ q => ?_) fun _ _ x => x) (call_eq hattr)
  obtain ⟨q, g⟩ := q
  cases q
  have F₁ := F.keeps g
  have e0 : backTo pos (starEach [e] env) = (false, eval e env) :: backTo pos (starEach [] env) := by rw [starEach_cons hs]; rfl
  have hall : wpAny (model G.prog G.w) A (spliced (backTo pos (starEach [e] env))) (fun vs s' => RepAll X s'.heap vs [d₁] ∧ Fits G env X ρ ow s' ∧ Turn env ow s₁ s') E s₁ := by
    rw [e0]
    exact spliced_cons (wpAny_mono (ha.go X A s₁ E R F₁) (fun v s₂ q => spliced_nil ⟨.cons q.1 .nil, q.2⟩) fun _ _ x => x)
  refine callWith_K (G.X.keeps F₁.base) hk (wpAny_mono hall (fun vs s₂ q₂ => ⟨G.X.keeps q₂.2.1.base, ?_⟩) fun _ _ x => x) (starEach_cons hs) (backTo_any (noStar_tail hs))
  obtain ⟨r, F₂, t⟩ := q₂
  refine wpAny_mono (h.go X A s₂ E vs R F₂.base F₂.live r) (fun v s₃ q₃ => ?_) fun _ _ x => x
  exact ⟨q₃.1, F₂.keeps q₃.2, (g.turn.trans t).trans q₃.2.turn⟩
end
end
section
noncomputable def FnTold (qual : Str) (params : Arguments) (body : FuncBody) (scope : Scope) (clos : List (Str × Addr)) (fd : FuncData) : Prop :=
  fd.qualname = qual ∧ fd.params = params ∧ fd.body = body ∧ fd.scope = scope ∧ fd.globals = mainGlobals ∧ fd.closure = clos ∧ fd.defaults = .none ∧ fd.kwdefaults = .none ∧ fd.builtins = builtinsNs
set_option tactic.hygienic true in
theorem among_app {pos : Pos} {a b : Nat} {c cv : Value} (l : List Value) (h : TriplesOk l) (e : codeAmong pos (l ++ [rawInt a, rawInt b, c]) = some cv) : codeAmong pos l = some cv ∨ (pos.line = a ∧ pos.col = b ∧ cv = c) := by
  fun_induction TriplesOk l with
  | case1 =>
    simp only [List.nil_append, codeAmong, rawInt] at e
    split at e
    · rename_i hc
      simp only [Bool.and_eq_true, beq_iff_eq] at hc
      exact .inr ⟨by omega, by omega, (Option.some.inj e).symm⟩
    · cases e
  | case2 a' t b' u x rest ih =>
    simp only [List.cons_append, codeAmong] at e ⊢
    split at e
    · rename_i hc; rw [if_pos hc]; exact .inl e
    · rename_i hc; rw [if_neg hc]; exact ih h e
  | case3 l h1 h2 => exact h.elim
theorem tail_fn {M : Model} {A : Around} {E : Value → Shared → Prop} {s : Shared} {name qual : Str} {params : Arguments} {body : FuncBody} {scope : Scope} {env : Env} {P : Addr} {pos : Pos} {firstLine : Nat} {mg : Str → Option Value}
    {clos : List (Str × Addr)} {Q : Value → Shared → Prop} (hcl : closureFor scope env = pure clos) (hge0 : env.globals = mainGlobals) (hg : s.heap.Ns mainGlobals mg) (hgP : mainGlobals ≠ P) (hb : s.heap.BuiltinsAt mg P)
    (hcode : ∀ (h₁ : Heap) (tk : Nat) (Q' : Value → Shared → Prop), (∀ b o, s.heap.get? b = some o → h₁.get? b = some o) → s.heap.objs.size ≤ h₁.objs.size →
      (∀ cv h' tk', Heap.ExtBut P h₁ h' → h₁.objs.size ≤ h'.objs.size → (∀ fo tk'', (∀ fd, fo = ({ cls := .type "function", data := .func fd } : Obj) → FnTold qual params body scope clos fd → fd.code = cv → Q (.ref h'.objs.size) { s with heap := h'.push fo, toks := tk'' })) → Q' cv { s with heap := h', toks := tk' }) →
      wpAny M A (functionCode env pos firstLine name qual params scope body) Q' E { s with heap := h₁, toks := tk }) :
    wpAny M A (makeTail name qual params body scope env .none .none none pos firstLine) Q E s := by
  obtain ⟨bm, ob, hbm, hne0, _, hneP, hbo, hcls, hdict, hdata⟩ := hb
  unfold makeTail
  rw [hcl, hge0]
  refine wpAny_bind (wpAny_pure ?_)
  have fin : ∀ (h₁ : Heap) (tk : Nat) (ctv : Value), (∀ b o, s.heap.get? b = some o → h₁.get? b = some o) → s.heap.objs.size ≤ h₁.objs.size → wpAny M A (do
      let cv ← functionCode env pos firstLine name qual params scope body
      let bl ← builtinsFor mainGlobals env.builtins
      let nm ← nsGet mainGlobals "__name__"
      match body with
        | .stmts b => do
          let doc ← (match docOf b with | some s => mkText s | none => pure .none)
          newObj (.type "function") (.func { name, qualname := qual, params, body, scope, globals := mainGlobals, closure := clos, closureTuple := ctv, code := cv, builtins := bl, defaults := .none, kwdefaults := .none, annotations := none, pyModule := nm.getD .none, doc })
        | .expr _ => do
          let doc ← pure .none
          newObj (.type "function") (.func { name, qualname := qual, params, body, scope, globals := mainGlobals, closure := clos, closureTuple := ctv, code := cv, builtins := bl, defaults := .none, kwdefaults := .none, annotations := none, pyModule := nm.getD .none, doc })) Q E { s with heap := h₁, toks := tk } := fun h₁ tk ctv k hsz => by
    refine wpAny_bind (hcode h₁ tk _ k hsz fun cv h' tk' hx _ hQ => ?_)
    have hg' : h'.Ns mainGlobals mg := (hg.keeps k).extBut hx hgP
    refine wpAny_bind (wpAny_builtinsFor (s := { s with heap := h', toks := tk' }) hg' hbm hne0 (hx _ _ hneP (k _ _ hbo)) hcls hdict hdata ?_)
    refine wpAny_bind (wpAny_nsGet (s := { s with heap := h', toks := tk' }) hg' ?_)
    cases body with
    | expr e => exact wpAny_bind (wpAny_pure (wpAny_newObj_type (hQ _ tk' _ rfl ⟨rfl, rfl, rfl, rfl, rfl, rfl, rfl, rfl, rfl⟩ rfl) (by size_fits)))
    | stmts b =>
      cases hdoc : docOf b with
      | none => dsimp only; rw [hdoc]; exact wpAny_bind (wpAny_pure (wpAny_newObj_type (hQ _ tk' _ rfl ⟨rfl, rfl, rfl, rfl, rfl, rfl, rfl, rfl, rfl⟩ rfl) (by size_fits)))
      | some t => dsimp only; rw [hdoc]; exact wpAny_bind (wpAny_mkText (wpAny_newObj_type (hQ _ _ _ rfl ⟨rfl, rfl, rfl, rfl, rfl, rfl, rfl, rfl, rfl⟩ rfl) (by size_fits)))
  cases clos with
  | nil =>
    simp only [List.isEmpty_nil, if_true]
    refine wpAny_bind (wpAny_pure ?_)
    exact fin s.heap s.toks _ (fun _ _ e => e) (Nat.le_refl _)
  | cons q r =>
    simp only [List.isEmpty_cons, Bool.false_eq_true, if_false]
    refine wpAny_bind (wpAny_newTextTuple ?_)
    exact fin _ s.toks _ (fun b o e => Heap.get?_push_of_some _ e) (by rw [Heap.size_push]; omega)
section
variable {G : Gd} {env : Env} {X : List Addr} {ρ : Loc} {ow : Own} {s : Shared}
theorem mk_fn {A : Around} {E : Value → Shared → Prop} {Q : Value → Shared → Prop} {f : Nat → Nat → Option Str} {c P : Addr} {name qual : Str} {params : Arguments} {body : FuncBody} {scope : Scope} {clos : List (Str × Addr)} {pos : Pos} {firstLine : Nat}
    (F : Fits G env X ρ ow s) (hc : env.code = .ref c) (hC : codeHdIn G.K c P = true) (hm : (P, OO.pit f) ∈ ow) (hq : ∀ q, f pos.line pos.col = some q → q = qual) (hcl : closureFor scope env = pure clos)
    (h : ∀ v s', Fits G env X ρ ow s' → Turn env ow s s' → (∃ fa fo, v = .ref fa ∧ s'.heap.get? fa = some fo ∧ fo.cls = .type "function" ∧ fa ∉ X ∧ s.heap.get? fa = none ∧ (f pos.line pos.col = some qual → Rep X s'.heap v (.fn (FnTold qual params body scope clos) qual))) → Q v s') :
    wpAny (model G.prog G.w) A (makeFunction name qual params body scope env [] [] [] pos firstLine) Q E s := by
  obtain ⟨ps, hP, ht, hr⟩ := (F.owns _ hm).1
  have hPX := (F.owns _ hm).2
  have C : CodeHd s.heap c P := codeHd_of_K (G.X.keeps F.base) hC
  have hgs := G.T.g.keeps F.base
  obtain ⟨bm, ob, b1, b2, b3, b4, b5, b6⟩ := G.T.bmain
  have hgP : mainGlobals ≠ P := fun q => by
    obtain ⟨o, es, ep, e, hd, _⟩ := hgs
    rw [q, show s.heap.get? P = _ from hP] at e; cases e; cases hd
  have hbP : bm ≠ P := fun q => by
    have e := F.base _ _ b3
    rw [q, show s.heap.get? P = _ from hP] at e; cases e; cases b4
  have hbG : bm ≠ mainGlobals := fun q => by
    obtain ⟨o, es, ep, e, hd, _⟩ := G.T.g
    rw [q, e] at b3; cases b3; rw [hd] at b6; cases b6
  rw [makeFunction_eq]
  simp only [List.zip_nil_right, List.filterMap_nil, List.isEmpty_nil, if_true, pure_bind]
  refine tail_fn hcl F.gl hgs hgP ⟨bm, ob, b1, b2, hbG, hbP, F.base _ _ b3, b4, b5, b6⟩ fun h₁ tk Q' k hsz hQ' => ?_
  have nX : ∀ a, s.heap.objs.size ≤ a → a ∉ X := fun a ha q => by
    obtain ⟨o, e⟩ := F.live a q; exact absurd (Heap.lt_size e) (Nat.not_lt.mpr ha)
  have nN : ∀ a, s.heap.objs.size ≤ a → s.heap.get? a = none := fun a ha => none_at ha
  cases hf : codeAmong pos ps.toList with
  | some cv =>
    refine wpAny_functionCode_hit (s := { s with heap := h₁, toks := tk }) hc ((C.keeps k).code (k _ _ hP) ht) hf (hQ' cv h₁ tk (fun _ _ _ e => e) (Nat.le_refl _) fun fo tk'' fd hfo hT hcd => ?_)
    have g : Grow s { s with heap := h₁.push fo, toks := tk'' } := .of fun b o e => Heap.get?_push_of_some _ (k b o e)
    subst hfo
    refine h _ _ (F.keeps g) g.turn ⟨_, _, rfl, Heap.get?_push_size _ rfl, rfl, nX _ hsz, nN _ hsz, fun z => ?_⟩
    refine .fn (Heap.get?_push_size _ rfl) rfl rfl hT (nX _ hsz) ?_
    rw [hcd]
    exact (hr pos cv qual hf z).keeps g.heap
  | none =>
    refine wpAny_functionCodeX (s := { s with heap := h₁, toks := tk }) hc ((C.keeps k).code (k _ _ hP) ht) ((C.keeps k).tab (k _ _ hP)) hf fun c' h' tk' hx hge hlt _ hrec htb hP' => ?_
    obtain ⟨P', _, _, ⟨⟨oc, vs, e1, e2, e3, _⟩, _⟩⟩ := hP'
    obtain ⟨c₂, oc₂, vs₂, t₂, e₂, g₂, d₂, q₂⟩ := hrec
    cases e₂
    rw [g₂] at e1; cases e1
    rw [d₂] at e3; cases e3
    have hge' : s.heap.objs.size ≤ c' := Nat.le_trans hsz hge
    have hszP : h₁.objs.size ≤ h'.objs.size := Nat.le_trans hge (Nat.le_of_lt hlt)
    refine hQ' (.ref c') h' tk' hx hszP fun fo tk'' fd hfo hT hcd => ?_
    have kk : ∀ b o, b ≠ P → s.heap.get? b = some o → (h'.push fo).get? b = some o := fun b o hb e => Heap.get?_push_of_some _ (hx b o hb (k b o e))
    have gb : GrowBut P s { s with heap := h'.push fo, toks := tk'' } := ⟨⟨_, _, rfl⟩, kk, fun _ _ => ⟨_, Heap.get?_push_of_some _ htb.2⟩⟩
    have hsame : Same X s.heap (h'.push fo) := fun b o hb _ e => kk b o (fun q => hb (q ▸ hPX)) e
    have hcode : Rep X (h'.push fo) (.ref c') (.code qual) := .code (Heap.get?_push_of_some _ g₂) e2 d₂ q₂ (nX _ hge')
    obtain ⟨F', t'⟩ := F.butAt hm gb ⟨_, Heap.get?_push_of_some _ htb.2, by
      rw [Array.toList_append]; exact TriplesOk_snoc _ _ _ _ ht, fun pos' cv q h1 h2 => by
        rw [Array.toList_append] at h1
        rcases among_app _ ht h1 with h3 | ⟨h3, h4, rfl⟩
        · exact (hr pos' cv q h3 h2).mono hsame
        · rw [h3, h4] at h2
          rw [hq q h2]; exact hcode⟩
    subst hfo
    refine h _ _ F' t' ⟨_, _, rfl, Heap.get?_push_size _ rfl, rfl, nX _ (Nat.le_trans hsz hszP), nN _ (Nat.le_trans hsz hszP), fun z => ?_⟩
    refine .fn (Heap.get?_push_size _ rfl) rfl rfl hT (nX _ (Nat.le_trans hsz hszP)) ?_
    rw [hcd]; exact hcode
theorem lam_made {A : Around} {E : Value → Shared → Prop} {Q : Value → Shared → Prop} {f : Nat → Nat → Option Str} {c P : Addr} {params : Arguments} {body : Expr} {scope : Scope} {clos : List (Str × Addr)} {pos : Pos}
    (F : Fits G env X ρ ow s) (hc : env.code = .ref c) (hC : codeHdIn G.K c P = true) (hm : (P, OO.pit f) ∈ ow) (hq : ∀ q, f pos.line pos.col = some q → q = env.qual ++ "<lambda>") (hcl : closureFor scope env = pure clos) (hdef : defaultsOf params env = ([], []))
    (h : ∀ v s', Fits G env X ρ ow s' → Turn env ow s s' → (∃ fa fo, v = .ref fa ∧ s'.heap.get? fa = some fo ∧ fo.cls = .type "function" ∧ fa ∉ X ∧ s.heap.get? fa = none) → Q v s') :
    wpAny (model G.prog G.w) A (eval (.Lambda params body scope pos) env) Q E s := by
  refine kla_eval hdef (mk_fn F hc hC hm hq hcl fun v s' F' t' ⟨fa, fo, e1, e2, e3, e4, e5, _⟩ => h v s' F' t' ⟨fa, fo, e1, e2, e3, e4, e5⟩)
end
end
section
open PySem.Sre PySem.Builtin.Re
noncomputable def twCode : Array Nat := #[14, 14, 4, 1, 1, 9, 0, 64, 0, 1342177280, 0, 0, 0, 0, 0, 17, 0, 13, 11, 9, 0, 64, 0, 1342177280, 0, 0, 0, 0, 0, 17, 1, 1]
noncomputable def dull (c : Nat) : Bool := !(decide (c < 256) && (twCode.getD (6 + c / 32) 0).testBit (c % 32))
theorem inSet_dull {c : Nat} (h : dull c = true) (seen : Sre.Seen) : ∃ seen', inSet twCode c twCode.size 5 true seen = .ok (false, seen') := by
  have h' : (decide (c < 256) && (twCode.getD (5 + (1 + c / 32)) 0).testBit (c % 32)) = false := by
    have : 5 + (1 + c / 32) = 6 + c / 32 := by omega
    rw [this]; unfold dull at h; simpa only [Bool.not_eq_true'] using h
  have e1 : twCode.size = 31 + 1 := rfl
  rw [e1]
  refine ⟨(seen.add 9).add 0, ?_⟩
  have key : inSet twCode c (31 + 1) 5 true seen = if (decide (c < 256) && (twCode.getD (5 + (1 + c / 32)) 0).testBit (c % 32)) = true then .ok (true, seen.add 9) else inSet twCode c 31 14 true (seen.add 9) := by rfl
  rw [key, h', if_neg Bool.false_ne_true]
  rfl
theorem admitted_none {m : M} (hc : m.code = twCode) (hd : ∀ s, s < m.lim → dull (m.text.getD s 0) = true) : ∀ (fuel s : Nat) (seen : Sre.Seen), ∃ seen', M.admitted m fuel s seen = .ok (none, seen')
  | 0, s, seen => ⟨seen, rfl⟩
  | fuel + 1, s, seen => by
    unfold M.admitted
    by_cases h : s ≥ m.lim
    · rw [if_pos h]; exact ⟨_, rfl⟩
    · rw [if_neg h, hc]
      obtain ⟨seen', e⟩ := inSet_dull (hd s (by omega)) seen
      rw [e]
      exact admitted_none hc hd fuel (s + 1) seen'
theorem attempt_none {m : Sre.M} (hc : m.code = twCode) (hd : ∀ s, s < m.lim → dull (m.text.getD s 0) = true) (hf : m.frames = []) (ho : m.outcome = none) : (m.attemptFrom 0 true).answer = some false ∧ (m.attemptFrom 0 true).frames = [] ∧ (m.attemptFrom 0 true).outcome = none := by
  have hfs : m.hasFirstSet = true := by unfold M.hasFirstSet; rw [hc]; rfl
  unfold M.attemptFrom
  rw [hfs]
  obtain ⟨seen', e⟩ := admitted_none hc hd (m.lim + 1 - 0) 0 m.seen
  rw [if_neg (by decide), e]
  exact ⟨rfl, hf, ho⟩
theorem search_none {text : Array Nat} (hd : ∀ s, s < text.size → dull (text.getD s 0) = true) : (forSearch twCode text 1 0 text.size false).answer = some false ∧ (forSearch twCode text 1 0 text.size false).frames = [] ∧ (forSearch twCode text 1 0 text.size false).outcome = none := by
  unfold forSearch
  dsimp only
  split
  · exact ⟨rfl, rfl, rfl⟩
  · exact attempt_none rfl hd rfl rfl
section
variable {M : Model} {A : Around} {E : Value → Shared → Prop} {s : Shared}
theorem rules_any {α : Type} (l : List α) (f : α → PUnit → Sem (ForInStep PUnit)) (hf : ∀ a Q, Q (ForInStep.yield PUnit.unit) s → wpAny M A (f a PUnit.unit) Q E s) {Q : PUnit → Shared → Prop} (h : Q PUnit.unit s) : wpAny M A (forIn l PUnit.unit f) Q E s := by
  induction l with
  | nil => exact wpAny_pure h
  | cons a l ih =>
    rw [List.forIn_cons]
    exact wpAny_bind (hf a _ ih)
theorem run_none {m : Sre.M} {Q : Option Sre.M → Shared → Prop} (h1 : m.answer = some false) (h2 : m.frames = []) (h3 : m.outcome = none) (h : Q none s) : wpAny M A (reRunToEnd m) Q E s := by
  have hrun : m.runFor 4 = { m with outcome := some .failed } := by
    have hs : m.step = { m with outcome := some .failed } := by
      unfold Sre.M.step
      rw [h3, h1, h2]; rfl
    show Sre.M.runFor (3 + 1) m = _
    unfold Sre.M.runFor
    rw [h3, hs]; rfl
  unfold reRunToEnd
  refine wpAny_bind ?_
  have e : (2 : Nat) ^ 64 = (2 ^ 64 - 1) + 1 := by decide
  rw [e]
  unfold reDrive
  show wpAny M A (if (m.runFor 4).outcome.isSome = true then _ else _) _ _ _
  rw [hrun]
  refine wpAny_pure ?_
  refine wpAny_bind ?_
  have hrun' : m.runFor reTurnSteps = { m with outcome := some .failed } := hrun
  refine rules_any _ _ (fun a Q' hq => ?_) (by rw [hrun']; exact wpAny_pure h)
  split
  · exact wpAny_bind (wpAny_rule (wpAny_pure hq))
  · first | exact wpAny_pure hq | exact wpAny_bind (wpAny_pure (wpAny_pure hq))
end
end
section
open PySem.Builtin.Re
structure IsTwin (h : Heap) (p q : Addr) : Prop where
  pat : ∃ fs dd sl, h.get? p = some ⟨.type "re.Pattern", dd, .fields fs, sl⟩ ∧ fs.getD 5 .none = .ref q ∧ reRawNat (fs.getD 6 .none) = 0 ∧ reRawNat (fs.getD 2 .none) = 1
  code : ∃ oq items n, h.get? q = some oq ∧ oq.data = .seq items n ∧ (items.map reRawOf).map (·.toNat) = twCode
theorem IsTwin.keeps {h h' : Heap} {p q : Addr} (x : IsTwin h p q) (k : ∀ b o, h.get? b = some o → h'.get? b = some o) : IsTwin h' p q :=
  ⟨let ⟨fs, dd, sl, e, r⟩ := x.pat; ⟨fs, dd, sl, k _ _ e, r⟩, let ⟨oq, i, n, e, r⟩ := x.code; ⟨oq, i, n, k _ _ e, r⟩⟩
section
variable {M : Model} {A : Around} {E : Value → Shared → Prop} {s : Shared} {p q : Addr} {l : List Nat} {t : Tok}
theorem target_is {Q : ReTarget → Shared → Prop} (h : IsTwin s.heap p q) (hQ : Q { pattern := .ref p, string := .str (tx l) t, code := twCode, text := l.toArray, kind := 0, groups := 1, pos := 0, lim := l.toArray.size } s) : wpAny M A (reWholeTarget (.ref p) (.str (tx l) t)) Q E s := by
  obtain ⟨fs, dd, sl, ho, h5, h6, h2⟩ := h.pat
  obtain ⟨oq, items, n, hoq, hdq, hcode⟩ := h.code
  unfold reWholeTarget
  refine wpAny_bind (wpAny_fieldsOf ho rfl ?_)
  refine wpAny_bind (wpAny_of_eq (a := (l.toArray, 0)) (by rfl) ?_)
  dsimp only
  rw [h6, h5, h2]
  simp only [show ((0 : Nat) == 1) = false from rfl, Bool.and_false, Bool.false_and, Bool.false_eq_true, if_false]
  refine wpAny_bind (wpAny_of_eq (a := ()) (by rfl) ?_)
  refine wpAny_bind ?_
  unfold reRawItems
  refine wpAny_bind (wpAny_seqItems hoq hdq ?_)
  refine wpAny_pure ?_
  refine wpAny_pure ?_
  rw [show ((some items).getD #[]) = items from rfl, hcode]
  exact hQ
theorem next_none {Q : Option Sre.M → Shared → Prop} (hd : ∀ c ∈ l, dull c = true) {st : ReTarget} (hst : st = { pattern := .ref p, string := .str (tx l) t, code := twCode, text := l.toArray, kind := 0, groups := 1, pos := 0, lim := l.toArray.size }) (hQ : Q none s) : wpAny M A (reNextFound st 0 false) Q E s := by
  subst hst
  unfold reNextFound
  dsimp only
  obtain ⟨h1, h2, h3⟩ := search_none (text := l.toArray) (fun i hi => hd _ (by
    have : i < l.length := by simpa using hi
    simp [this]))
  exact run_none h1 h2 h3 hQ
end
theorem slot_sub : Slot "re.Pattern" "sub" "re.Pattern.sub" := .of (owner := "re.Pattern") (n := "sub") (by rw [typeLookup_type, builtinLookup_eq_fast]; kernel_rfl) (by decide +kernel) (by decide +kernel) (by decide +kernel)
    (by first | exact .inl (by decide +kernel) | exact .inr (by decide +kernel)) (by rw [isSubtype_type]; kernel_rfl)
theorem entry_sub' : entryFor table "re.Pattern.sub" = some Builtin.«re.Pattern.sub» := entryFor_of_tree (by kernel_rfl)
theorem entry_subloop : entryFor table "re.Pattern.sub.loop" = some Builtin.«re.Pattern.sub.loop» := entryFor_of_tree (by kernel_rfl)
theorem args_sub (a b c : Value) : argsOk "re.Pattern.sub" ⟨[a, b, c], []⟩ := by unfold argsOk; kernel_rfl
theorem type_sub : typeOf (.builtin "re.Pattern.sub") = pure (.type "method_descriptor") := by show builtinType _ = _; rw [builtinType_eq_fast]; kernel_rfl
theorem plain_pat : PlainAttrs "re.Pattern" := ⟨⟨"object.__getattribute__", by rw [typeLookup_type, builtinLookup_eq_fast]; kernel_rfl, by decide +kernel⟩, by rw [typeLookup_type, builtinLookup_eq_fast]; kernel_rfl⟩
theorem fn_has_call : typeLookup (.type "function") "__call__" = pure (some (.builtin "function.__call__")) := by rw [typeLookup_type, builtinLookup_eq_fast]; kernel_rfl
theorem sub_str_ba : isSubtype (.type "str") (.type "bytearray") = pure false := by rw [isSubtype_type]; kernel_rfl
theorem named_sub (v w : Value) : reNamed "re.Pattern.sub" "sub" ["repl", "string", "count"] 2 [v, w] [] = pure [some v, some w, none] := by kernel_rfl
section
variable {prog : Program} {w : World} {A : Around} {E : Value → Shared → Prop} {s : Shared} {p q pc fa : Addr} {l : List Nat} {t : Tok}
theorem slice_is {M : Model} {A : Around} {E : Value → Shared → Prop} {s : Shared} {l m : List Nat} {b e : Nat} {Q : Value → Shared → Prop} (hm : l.toArray.extract b e = m.toArray) (hl : m.length ≤ 1000000) (h : Q (.str (tx m) s.toks) { s with toks := s.toks + 1 }) : wpAny M A (reSlice l.toArray 0 b e) Q E s := by
  unfold reSlice
  rw [if_pos (show ((0 : Nat) == 0) = true from rfl), hm]
  refine wpAny_mkStr h ?_
  rw [tx_len]
  exact small hl
theorem loop_none {R : Result → Shared → Prop} (hq0 : IsTwin s.heap p q) (hpc : s.heap.get? pc = some { cls := .type "list", data := .seq #[] }) (hd : ∀ c ∈ l, dull c = true) (hne : l ≠ []) (hl : l.length ≤ 1000000) (hpn : pc ≠ p ∧ pc ≠ q)
    (h : ∀ t' h' tk, Heap.SameBut pc s.heap h' → R (.ok (.ret (.str (tx l) t'))) { s with heap := h', toks := tk }) :
    codeAny (model prog w) A (.builtin "re.Pattern.sub.loop" ⟨[.ref p, .str (tx l) t, .ref fa, rawInt 1, rawInt 0, rawInt 0, rawInt 0, rawInt 0, .bool false, .ref pc, .bool false], []⟩) R s := by
  refine codeAny_builtin entry_subloop ?_
  unfold Builtin.«re.Pattern.sub.loop»
  dsimp only [rawInt]
  refine wpAny_bind (target_is hq0 ?_)
  rw [if_neg (by decide)]
  refine wpAny_bind ?_
  rw [if_neg (by decide)]
  refine next_none hd rfl ?_
  dsimp only
  have h1 : (0 : Int).toNat < l.toArray.size := by
    rw [List.size_toArray]; exact List.length_pos_iff.mpr hne
  rw [if_pos h1]
  refine wpAny_bind (slice_is (m := l) (by simp) hl ?_)
  refine wpAny_bind (wpAny_updateSeq (s := { s with toks := s.toks + 1 }) hpc rfl ?_)
  refine wpAny_bind (slice_is (m := []) (by simp) (by simp) ?_)
  have hpu : (s.heap.update pc (Obj.mapSeq fun x => x.push (Value.str (tx l) s.toks))).get? pc = some { cls := .type "list", data := .seq #[.str (tx l) s.toks] 1 } := by
    rw [Heap.get?_update_self _ hpc (by rw [Obj.mapSeq_push_plain]; rfl), Obj.mapSeq_push_plain]; rfl
  refine wpAny_bind (wpAny_seqItems hpu rfl ?_)
  rw [if_neg (by simp)]
  refine wpAny_bind ?_
  rw [show (if ((0 : Nat) == 0) = true then "str.join" else "bytes.join") = "str.join" from rfl]
  refine SC.join (l := [(tx l, s.toks)]) (texts := [tx l]) ⟨_, hpu, rfl, 1, rfl⟩ rfl (join_ok [] [l] (small (by simpa using hl))) fun t' k => ?_
  rw [if_neg (by decide)]
  refine wpAny_pure ?_
  have e : Txt.join (tx []) [tx l] = tx l := by
    have := join_tx [] [l]
    simpa [joinL] using this
  rw [e]
  exact h _ _ _ (Heap.SameBut.update ..)
end
section
variable {G : Gd} {X : List Addr} {prog : Program} {w : World} {A : Around} {E : Value → Shared → Prop} {s : Shared} {p q fa : Addr} {fo : Obj} {l : List Nat} {t : Tok}
theorem sub_call {Q : Value → Shared → Prop} (hq0 : IsTwin s.heap p q) (hfa : s.heap.get? fa = some fo) (hfc : fo.cls = .type "function") (hd : ∀ c ∈ l, dull c = true) (hne : l ≠ []) (hl : l.length ≤ 1000000)
    (h : ∀ t' h' tk, (∀ b o, s.heap.get? b = some o → h'.get? b = some o) → Q (.str (tx l) t') { s with heap := h', toks := tk }) : wpAny (model prog w) A (call (.builtin "re.Pattern.sub") [.ref p, .ref fa, .str (tx l) t]) Q E s := by
  obtain ⟨fs, dd, sl, ho, _⟩ := hq0.pat
  have hp : s.TypeIs (.ref p) "re.Pattern" := ⟨_, ho, rfl⟩
  have hf : s.TypeIs (.ref fa) "function" := ⟨_, hfa, hfc⟩
  refine wpAny_call (codeAny_call_builtin slot_sub.plain entry_sub' (slot_sub.check _ _ _ _ _ _ _ _ hp (args_sub _ _ _) ?_))
  unfold Builtin.«re.Pattern.sub» reSubstitute
  dsimp only
  rw [named_sub]
  refine wpAny_bind (wpAny_pure ?_)
  dsimp only
  refine wpAny_bind (wpAny_pure ?_)
  refine wpAny_bind (wpAny_specialOf hf fn_has_call ?_)
  rw [if_pos (show (some (Value.builtin "function.__call__")).isSome = true from rfl)]
  refine wpAny_bind (wpAny_pure ?_)
  rw [if_pos (show (some (Value.builtin "function.__call__")).isSome = true from rfl)]
  refine wpAny_bind (wpAny_pure ?_)
  refine wpAny_bind (wpAny_holding (target_is hq0 ?_))
  rw [if_pos (show ((1 : Int) == 1) = true from rfl)]
  refine wpAny_bind ?_
  unfold reNotHeld
  refine wpAny_bind (wpAny_isInstance (b := false) (typeIs_str s _ _) sub_str_ba ?_)
  rw [if_neg (by decide)]
  refine wpAny_bind (wpAny_pure ?_)
  refine wpAny_pure ?_
  refine wpAny_bind (wpAny_newObj_type ?_ (show (0 : Nat) ≤ sizeLine from Nat.zero_le _))
  refine wpAny_pure ⟨Code.quiet_builtin _ (by decide +kernel), ?_⟩
  have k : ∀ b o, s.heap.get? b = some o → (s.heap.push { cls := .type "list", data := .seq #[] }).get? b = some o := fun b o e => Heap.get?_push_of_some _ e
  obtain ⟨oq, items, n, hoq, _⟩ := hq0.code
  refine loop_none (p := p) (q := q) (hq0.keeps k) (Heap.get?_push_size _ rfl) hd hne hl ⟨(Nat.ne_of_lt (Heap.lt_size ho)).symm, (Nat.ne_of_lt (Heap.lt_size hoq)).symm⟩ fun t' h' tk hs => ?_
  exact h t' h' tk fun b o e => (hs.2 b (Nat.ne_of_lt (Heap.lt_size e))).trans (k b o e)
end
end
section
open PySem.Builtin.Re
noncomputable def twinIn (K : Frag) (p q : Addr) : Bool := (match K.lookup p with
  | some ⟨.type n, none, .fields fs, _⟩ => n == "re.Pattern" && (match fs.getD 5 .none with | .ref q' => q' == q | _ => false) && reRawNat (fs.getD 6 .none) == 0 && reRawNat (fs.getD 2 .none) == 1
  | _ => false) && (match K.lookup q with
  | some ⟨_, _, .seq items _, _⟩ => (items.map reRawOf).map (·.toNat) == twCode
  | _ => false)
set_option tactic.hygienic true in
theorem twin_of {K : Frag} {h : Heap} {p q : Addr} (X : K.In h) (e : twinIn K p q = true) : IsTwin h p q ∧ h.NoDictAt (.ref p) := by
  unfold twinIn at e
  obtain ⟨e1, e2⟩ := Bool.and_eq_true_iff.mp e
  split at e1
  · rename_i n fs sl h1
    simp only [Bool.and_eq_true] at e1
    obtain ⟨⟨⟨a1, a2⟩, a3⟩, a4⟩ := e1
    have hn : n = "re.Pattern" := by simpa using a1
    subst hn
    split at a2
    · rename_i q' h5
      have hq : q' = q := by simpa using a2
      subst hq
      split at e2
      · rename_i items k _ h2
        exact ⟨⟨⟨fs, none, sl, X _ _ h1, h5, by simpa using a3, by simpa using a4⟩, ⟨_, items, k, X _ _ h2, rfl, by simpa using e2⟩⟩, ⟨_, X _ _ h1, rfl⟩⟩
      · cases e2
    · cases a2
  · cases e1
theorem meth_eq {o : Expr} {name : Str} {apos pos : Pos} {args : List Expr} {env : Env} (hb : attributeBase o name env (eval o env) = eval o env) (hp : apos.endLine = pos.line) (hf : methodCallForm args.length (backTo pos (starEach args env)) [] = true) :
    eval (.Call (.Attribute o name apos) args [] pos) env = (do
        let ov ← eval o env
        standAt apos.atName
        let (f, first) ← holding [ov] (getMethod ov name (do return (← importBound o env).getD true))
        callWith pos f first (backTo pos (starEach args env)) []) := by
  show (do
    let ov ← attributeBase o name env (eval o env)
    standAt apos.atName
    let (f, first) ← holding [ov] (calleeOf (methodCallForm (args.length + 0) (backTo pos (starEach args env)) []) o env ov name)
    let callPos ← methodCallPos (methodCallForm (args.length + 0) (backTo pos (starEach args env)) []) o env apos pos
    callWith callPos f first (backTo pos (starEach args env)) []) = _
  rw [hb, Nat.add_zero, hf]
  have h1 : methodCallPos true o env apos pos = pure pos := by
    unfold methodCallPos
    rw [hp]; simp
  rw [h1]
  rfl
section
variable {G : Gd} {n : Nat} {env : Env} {ρ : Loc} {ow : Own} {bs : List (List Stmt)} {o : Out}
theorem ex_resub {x tw : Str} {f : Nat → Nat → Option Str} {p q c P : Addr} {l : List Nat} {args : Arguments} {body : Expr} {scope : Scope} {rest : List Stmt} {p1 p2 p3 p4 p5 p6 p7 : Pos} {pl : Sem Bool}
    (hk : storable env x = true) (hs : swapsWith (.Call (.Attribute (.Name tw p2) "sub" p3) [.Lambda args body scope p4, .Name x p5] [] p6) (some (.Name x p1)) p7.line env = pure false)
    (he : eval (.Call (.Attribute (.Name tw p2) "sub" p3) [.Lambda args body scope p4, .Name x p5] [] p6) env = (do
        let ov ← eval (.Name tw p2) env
        standAt p3.atName
        let (f, first) ← holding [ov] (getMethod ov "sub" pl)
        callWith p6 f first (backTo p6 (starEach [.Lambda args body scope p4, .Name x p5] env)) []))
    (htw : Ev G n env ρ ow (.Name tw p2) (.raw (.ref p))) (ht : twinIn G.K p q = true) (hx : Ev G n env ρ ow (.Name x p5) (.str l)) (hc : env.code = .ref c) (hC : codeHdIn G.K c P = true) (hm : (P, OO.pit f) ∈ ow) (hq : ∀ q, f p4.line p4.col = some q → q = env.qual ++ "<lambda>")
    (hcl : closOk env.cells scope.names = true) (hdef : defaultsOf args env = ([], [])) (hd : ∀ c ∈ l, dull c = true) (hne : l ≠ []) (hl : l.length ≤ 1000000)
    (h : Ex G n env ((x, .str l) :: ρ) ow (rest :: bs) o) : Ex G n env ρ ow ((.Assign [.Name x p1] (.Call (.Attribute (.Name tw p2) "sub" p3) [.Lambda args body scope p4, .Name x p5] [] p6) p7 :: rest) :: bs) o := .mk fun X A s E R B F => by
  refine wpAny_execs_cons (wpAny_Assign_Name (MethodCall_ (wpAny_mono (htw.go X A s E R F) (fun v s₁ q₁ => ?_) fun _ _ y => y) he) hs)
  obtain ⟨q₁, g₁⟩ := q₁
  cases q₁
  have F₁ := F.keeps g₁
  obtain ⟨tw₁, nd₁⟩ := twin_of (G.X.keeps F₁.base) ht
  obtain ⟨fs, dd, sl, ho, _⟩ := tw₁.pat
  refine getMethod_builtin (T := "re.Pattern") ⟨_, ho, rfl⟩ plain_pat slot_sub type_sub (fun a e => by cases e; exact nd₁) ?_
  have e0 : backTo p6 (starEach [.Lambda args body scope p4, .Name x p5] env) = [(false, eval (.Lambda args body scope p4) env), (false, eval (.Name x p5) env)] := rfl
  refine callWith_method1 (e := .Lambda args body scope p4) (rest := [.Name x p5]) ?_ rfl rfl
  rw [e0]
  refine spliced_cons (lam_made F₁ hc hC hm hq (closureFor_is hcl) hdef fun v s₂ F₂ t₂ ⟨fa, fo, e1, e2, e3, e4, e5⟩ => ?_)
  subst e1
  refine spliced_cons (wpAny_mono (hx.go X A s₂ E R F₂) (fun v s₃ q₃ => spliced_nil ?_) fun _ _ y => y)
  obtain ⟨q₃, g₃⟩ := q₃
  cases q₃ with | str l t =>
  have F₃ := F₂.keeps g₃
  obtain ⟨tw₃, nd₃⟩ := twin_of (G.X.keeps F₃.base) ht
  refine sub_call tw₃ (g₃.heap _ _ e2) e3 hd hne hl fun t' h' tk k => ?_
  have g₄ : Grow s₃ { s₃ with heap := h', toks := tk } := .of k
  exact store_any hk (F₃.keeps g₄) (.str l t') fun h'' tk' F' t'' _ => h.from' R B F' ((((g₁.turn.trans t₂).trans g₃.turn).trans g₄.turn).trans t'')
end
end
section
noncomputable abbrev plainObj : Obj := { cls := .type "object", data := .plain }
theorem slot_oi : Slot "object" "__init__" "object.__init__" := .of (T := "object") (name := "__init__") (owner := "object") (n := "__init__") (by rw [typeLookup_type, builtinLookup_eq_fast]; kernel_rfl) (by decide +kernel) (by decide +kernel) (by decide +kernel)
    (.inl (by decide +kernel)) (by rw [isSubtype_type]; kernel_rfl)
theorem mro_object : mroOf (.type "object") = pure [.type "object"] := by rw [mroOf_type]; kernel_rfl
theorem new_object : typeLookup (.type "object") "__new__" = pure (some (.builtin "object.__new__")) := by rw [typeLookup_type, builtinLookup_eq_fast]; kernel_rfl
theorem called_object : TypeCalled "object" "object.__new__" "object.__init__" :=
  ⟨by decide +kernel, by decide +kernel, ⟨_, _, mro_object⟩, madeBy_type mro_object new_object (by decide +kernel), by decide +kernel, by rw [isSubtype_type]; kernel_rfl, slot_oi⟩
theorem tc_object : checkTypeCall "object" ⟨[], []⟩ = pure () := by kernel_rfl
theorem nc_object : checkBuiltinCall "object.__new__" ⟨[.type "object"], []⟩ = pure () := by kernel_rfl
theorem en_object : entryFor table "object.__new__" = some Builtin.«object.__new__» := entryFor_of_tree (by kernel_rfl)
theorem new_tree : Builtin.«object.__new__» ⟨[.type "object"], []⟩ = (do ret (← newObj (.type "object") .plain none)) := by kernel_rfl
section
variable {prog : Program} {w : World} {A : Around} {E : Value → Shared → Prop} {s : Shared}
theorem call_object {Q : Value → Shared → Prop} (h : Q (.ref s.heap.objs.size) { s with heap := s.heap.push plainObj }) : wpAny (model prog w) A (call (.type "object") []) Q E s := by
  refine callType_meets (Q₁ := fun obj s₁ => s₁.TypeIs obj "object" ∧ Q obj s₁) (S := fun A R s => R (.ok (.ret (.ref s.heap.objs.size))) { s with heap := s.heap.push plainObj }) called_object tc_object nc_object en_object F.entry_object_init (.of_wp fun prog w A R s hs => ?_) ⟨⟨_, Heap.get?_push_size _ rfl, rfl⟩, h⟩ fun obj s₁ hq => ?_
  · rw [new_tree]
    exact wpAny_bind (wpAny_newObj_type (wpAny_pure ⟨_, rfl, hs⟩))
  · refine ⟨hq.1, oi_args obj, fun _ R s => R (.ok (.ret .none)) s, .of_wp fun prog w A R s hs => ?_, rfl, hq.2⟩
    exact wpAny_pure ⟨_, rfl, hs⟩
end
section
variable {G : Gd} {n : Nat} {env : Env} {ρ : Loc} {ow : Own} {bs : List (List Stmt)} {o : Out}
theorem ex_object {x : Str} {p1 p2 p3 p4 : Pos} {rest : List Stmt} {ob : Str} (hk : storable env x = true) (hs : swapsWith (.Call (.Name ob p2) [] [] p3) (some (.Name x p1)) p4.line env = pure false)
    (ho : Ev G n env ρ ow (.Name ob p2) (.raw (.type "object"))) (h : ∀ st, Ex G n env ((x, own st) :: ρ) ow (rest :: bs) o) : Ex G n env ρ ow ((.Assign [.Name x p1] (.Call (.Name ob p2) [] [] p3) p4 :: rest) :: bs) o := .mk fun X A s E R B F => by
  refine wpAny_execs_cons (wpAny_Assign_Name (Call_ (wpAny_mono (ho.go X A s E R F) (fun v s₁ q => ?_) fun _ _ x => x) rfl) hs)
  obtain ⟨q, g⟩ := q
  cases q
  refine callWith_type0 (call_object ?_)
  have g₁ : Grow s₁ { s₁ with heap := s₁.heap.push plainObj } := .push _ _ s₁.toks
  exact store_any hk ((F.keeps g).keeps g₁) (.raw _) fun h' tk F' t' _ => (h _).from' R B F' ((g.trans g₁).turn.trans t')
end
end
section
noncomputable abbrev keysOf (ow : Own) : List Addr := ow.map (·.1)
structure KeepBut (as : List Addr) (s s' : Shared) : Prop where
  same : ∃ h tk, s' = { s with heap := h, toks := tk }
  heap : ∀ b o, b ∉ as → s.heap.get? b = some o → s'.heap.get? b = some o
structure OwnAll (G : Gd) (X : List Addr) (h : Heap) (ow : Own) : Prop where
  all : ∀ p ∈ ow, OOIs X h p.1 p.2 ∧ p.1 ∈ X
  nd : (keysOf ow).Nodup
  apart : ∀ b ∈ keysOf ow, G.H₀.get? b = none
structure NewX (X X' : List Addr) (h : Heap) : Prop where
  sub : ∀ a ∈ X, a ∈ X'
  new : ∀ a ∈ X', a ∈ X ∨ h.get? a = none
theorem NewX.refl (X : List Addr) (h : Heap) : NewX X X h := ⟨fun _ q => q, fun _ q => .inl q⟩
theorem NewX.k {X X' : List Addr} {h : Heap} (x : NewX X X' h) : ∀ a ∈ X', a ∈ X ∨ ∀ o, h.get? a = some o → ¬ look o := fun a ha => (x.new a ha).imp id fun z o e => by rw [z] at e; cases e
structure Left (G : Gd) (X X' : List Addr) (c c' : Own) (s s' : Shared) : Prop where
  newX : NewX X X' s.heap
  live : Live X' s'.heap
  owns : OwnAll G X' s'.heap c'
  keep : KeepBut (keysOf c) s s'
  keys : ∀ b ∈ keysOf c', b ∈ keysOf c ∨ s.heap.get? b = none
theorem KeepBut.sameX {as X : List Addr} {s s' : Shared} (k : KeepBut as s s') (h : ∀ a ∈ as, a ∈ X) : Same X s.heap s'.heap := fun b o hb _ e => k.heap b o (fun q => hb (h b q)) e
section
variable {G : Gd} {env : Env} {X : List Addr} {ρ : Loc} {s : Shared}
theorem Fits.own {ow : Own} (F : Fits G env X ρ ow s) : OwnAll G X s.heap ow := ⟨F.owns, F.nd, fun b hb => by
  cases e : G.H₀.get? b with
  | none => rfl
  | some o => exact absurd (.inr (.inr hb)) (F.apart b o e)⟩
theorem OwnAll.left {c r : Own} {h : Heap} (x : OwnAll G X h (c ++ r)) : OwnAll G X h c :=
  ⟨fun p hp => x.all p (List.mem_append_left _ hp), by have := x.nd; rw [keysOf, List.map_append] at this; exact (List.nodup_append.mp this).1, fun b hb => x.apart b (by rw [keysOf, List.map_append]; exact List.mem_append_left _ hb)⟩
theorem Fits.leftover {c c' r : Own} {X' : List Addr} {s' : Shared} (F : Fits G env X ρ (c ++ r) s) (L : Left G X X' c c' s s') :
    Fits G env X' ρ (c' ++ r) s' ∧ Turn env (c ++ r) s s' ∧ (∀ b, Mut env (c' ++ r) b → Mut env (c ++ r) b ∨ s.heap.get? b = none) := by
  have cX : ∀ a ∈ keysOf c, a ∈ X' := fun a ha => by
    obtain ⟨p, hp, rfl⟩ := List.mem_map.mp ha
    exact L.newX.sub _ (F.owns p (List.mem_append_left _ hp)).2
  have hsame : Same X' s.heap s'.heap := L.keep.sameX cX
  have inown : ∀ b, b ∈ keysOf c → b ∈ (c ++ r).map (·.1) := fun b hb => by rw [List.map_append]; exact List.mem_append_left _ hb
  have nl : env.locals ∉ keysOf c := fun q => by obtain ⟨p, hp, e⟩ := List.mem_map.mp q; exact (F.sep p (List.mem_append_left _ hp)).1 e
  have nc : ∀ n x, env.cells.lookup n = some x → x ∉ keysOf c := fun n x hx q => by obtain ⟨p, hp, e⟩ := List.mem_map.mp q; exact (F.sep p (List.mem_append_left _ hp)).2 n x hx e
  have hnd := F.nd
  rw [List.map_append, List.nodup_append] at hnd
  have kr : ∀ p ∈ r, p.1 ∉ keysOf c := fun p hp q => hnd.2.2 _ q _ (List.mem_map.mpr ⟨p, hp, rfl⟩) rfl
  obtain ⟨hs, tks, e0⟩ := L.keep.same
  have hmut : ∀ b, Mut env (c' ++ r) b → Mut env (c ++ r) b ∨ s.heap.get? b = none := fun b q => by
    rcases q with q | q | q
    · exact .inl (.inl q)
    · exact .inl (.inr (.inl q))
    · rw [List.map_append] at q
      rcases List.mem_append.mp q with q | q
      · exact (L.keys b q).imp (fun z => .inr (.inr (inown b z))) id
      · exact .inl (.inr (.inr (by rw [List.map_append]; exact List.mem_append_right _ q)))
  refine ⟨?_, ⟨L.keep.same, fun b o p e => L.keep.heap b o (fun q => p (.inr (.inr (inown b q)))) e⟩, hmut⟩
  refine ⟨fun b o e => L.keep.heap b o (fun q => F.apart b o e (.inr (.inr (inown b q)))) (F.base b o e), F.fn, F.gl, F.bl, ?_, fun n d e => ?_, fun p hp => ?_, ?_, L.live, fun b o e q => ?_, F.inj, fun y x e => ?_, fun p hp => ?_⟩
  · obtain ⟨m, hm⟩ := F.ns; exact ⟨m, hm.at' fun o e => L.keep.heap _ o nl e⟩
  · cases F.vars n d e with
    | loc m v a b z r => exact .loc m v a (b.at' fun o e => L.keep.heap _ o nl e) z ((r.to L.newX.k).mono hsame)
    | cell x v a b e' r => exact .cell x v a b (let ⟨o, ho, hd⟩ := e'; ⟨o, L.keep.heap x o (nc n x b) ho, hd⟩) ((r.to L.newX.k).mono hsame)
  · rcases List.mem_append.mp hp with q | q
    · exact L.owns.all p q
    · have h1 := F.owns p (List.mem_append_right _ q)
      exact ⟨(h1.1.to L.newX.k).at (fun o e => L.keep.heap _ o (kr p q) e) hsame, L.newX.sub _ h1.2⟩
  · rw [List.map_append, List.nodup_append]
    refine ⟨L.owns.nd, hnd.2.1, fun a ha b hb q => ?_⟩
    subst q
    rcases L.keys a ha with z | z
    · exact hnd.2.2 a z a hb rfl
    · obtain ⟨p, hp, rfl⟩ := List.mem_map.mp hb
      obtain ⟨o, e⟩ := own_there (F.owns p (List.mem_append_right _ hp)).1
      rw [z] at e; cases e
  · rcases hmut b q with z | z
    · exact F.apart b o e z
    · rw [F.base b o e] at z; cases z
  · obtain ⟨v, o, ho, hd⟩ := F.cel y x e; exact ⟨v, o, L.keep.heap x o (nc y x e) ho, hd⟩
  · rcases List.mem_append.mp hp with q | q
    · rcases L.keys p.1 (List.mem_map.mpr ⟨p, q, rfl⟩) with z | z
      · obtain ⟨p', hp', e'⟩ := List.mem_map.mp z
        have := F.sep p' (List.mem_append_left _ hp')
        rw [e'] at this; exact this
      · refine ⟨fun w => ?_, fun n x hx w => ?_⟩
        · obtain ⟨m, o, _, _, e, _⟩ := F.ns; rw [← w, z] at e; cases e
        · obtain ⟨v, o, e, _⟩ := F.cel n x hx; rw [← w, z] at e; cases e
    · exact F.sep p (List.mem_append_right _ q)
end
structure FnG (G : Gd) (n : Nat) (f : Value) (ds : List D) (c : Own) (R : D → Own → Prop) : Prop where
  code : ∀ (X : List Addr) (A : Around) (s : Shared) (E : Value → Shared → Prop) (vs : List Value), Room n A → G.H₀.StaysIn s.heap → Live X s.heap → RepAll X s.heap vs ds → OwnAll G X s.heap c →
    codeAny (model G.prog G.w) A (.call f ⟨vs, []⟩) (fun r s' => match r with | .ok (.ret v) => (∃ d c' X', R d c' ∧ Rep X' s'.heap v d ∧ Left G X X' c c' s s') | .ok _ => False | .error e => E e s') s
theorem FnG.go {G : Gd} {n : Nat} {f : Value} {ds : List D} {c : Own} {R : D → Own → Prop} (h : FnG G n f ds c R) (X : List Addr) (A : Around) (s : Shared) (E : Value → Shared → Prop) (vs : List Value) (Rm : Room n A) (hb : G.H₀.StaysIn s.heap) (hX : Live X s.heap) (ra : RepAll X s.heap vs ds) (ho : OwnAll G X s.heap c) :
    wpAny (model G.prog G.w) A (call f vs) (fun v s' => ∃ d c' X', R d c' ∧ Rep X' s'.heap v d ∧ Left G X X' c c' s s') E s := wpAny_call (h.code X A s E vs Rm hb hX ra ho)
structure EvG (G : Gd) (n : Nat) (env : Env) (ρ : Loc) (ow : Own) (e : Expr) (R : D → Own → Prop) : Prop where
  go : ∀ (X : List Addr) (A : Around) (s : Shared) (E : Value → Shared → Prop), Room n A → Fits G env X ρ ow s → wpAny (model G.prog G.w) A (eval e env)
    (fun v s' => ∃ d ow' X', R d ow' ∧ NewX X X' s.heap ∧ Rep X' s'.heap v d ∧ Fits G env X' ρ ow' s' ∧ Turn env ow s s' ∧ (∀ b, Mut env ow' b → Mut env ow b ∨ s.heap.get? b = none)) E s
theorem FnG.le {G : Gd} {n m : Nat} {f : Value} {ds : List D} {c : Own} {R : D → Own → Prop} (x : FnG G n f ds c R) (h : n ≤ m) : FnG G m f ds c R := ⟨fun X A s E vs Rm => x.code X A s E vs (Rm.le h)⟩
theorem NewX.base {X X' : List Addr} {h : Heap} {b : List Addr} (x : NewX X X' h) (B : ∀ a ∈ b, a ∈ X) : ∀ a ∈ b, a ∈ X' := fun a q => x.sub a (B a q)
section
variable {G : Gd} {n : Nat} {env : Env} {ρ : Loc} {ow : Own} {bs : List (List Stmt)} {o : Out}
theorem EvG.weaken {e : Expr} {R R' : D → Own → Prop} (x : EvG G n env ρ ow e R) (h : ∀ d c', R d c' → R' d c') : EvG G n env ρ ow e R' := ⟨fun X A s E Rm F => wpAny_mono (x.go X A s E Rm F) (fun v s' ⟨d, c', X', r, z⟩ => ⟨d, c', X', h _ _ r, z⟩) fun _ _ y => y⟩
theorem ex_own {ow' : Own} (hw : OSub ow' ow) (hnd : (keysOf ow).Nodup → (keysOf ow').Nodup) (h : Ex G n env ρ ow' bs o) : Ex G n env ρ ow bs o := .mk fun X A s E R B F =>
  h.from R B (F.less (Sub.refl ρ) hw (hnd F.nd)) (Grow.refl s).turn fun b q => .inl (mut_sub hw q)
theorem ex_assignG {x : Str} {px pos : Pos} {e : Expr} {rest : List Stmt} {R : D → Own → Prop} (hk : storable env x = true) (hs : swapsWith e (some (.Name x px)) pos.line env = pure false) (he : EvG G n env ρ ow e R)
    (h : ∀ d ow', R d ow' → (∀ b ∈ keysOf ow', b ∈ keysOf ow ∨ b ∉ o.base) → Ex G n env ((x, d) :: ρ) ow' (rest :: bs) o) : Ex G n env ρ ow ((.Assign [.Name x px] e pos :: rest) :: bs) o := .mk fun X A s E Rm B F => by
  refine wpAny_execs_cons (wpAny_Assign_Name (wpAny_mono (he.go X A s E Rm F) (fun v s₁ q => ?_) fun _ _ y => y) hs)
  obtain ⟨d, ow', X', r, nx, rep, F₁, t₁, hm⟩ := q
  refine store_any hk F₁ rep fun h' tk F' t' _ => ?_
  refine (h d ow' r fun b hb => ?_).from Rm (nx.base B) F' ?_ hm
  · rcases hm b (.inr (.inr hb)) with z | z
    · rcases z with z | ⟨n', z⟩ | z
      · obtain ⟨p, hp, rfl⟩ := List.mem_map.mp hb; exact absurd z (F₁.sep p hp).1
      · obtain ⟨p, hp, rfl⟩ := List.mem_map.mp hb; exact absurd rfl ((F₁.sep p hp).2 n' _ z)
      · exact .inl z
    · exact .inr fun q => by obtain ⟨ob, e⟩ := F.live b (B b q); rw [z] at e; cases e
  · obtain ⟨⟨h₁, tk₁, e₁⟩, k₁⟩ := t₁
    obtain ⟨⟨h₂, tk₂, e₂⟩, k₂⟩ := t'
    refine ⟨?_, fun b ob p e => k₂ b ob (fun q => (hm b q).elim p fun z => by rw [z] at e; cases e) (k₁ b ob p e)⟩
    subst e₁; exact ⟨_, _, rfl⟩
theorem ex_retG {e : Expr} {pos : Pos} {rest : List Stmt} {R : D → Own → Prop} (he : EvG G n env ρ ow e R) (h : ∀ d ow', R d ow' → o.ret d ρ ow') : Ex G n env ρ ow ((.Return (some e) pos :: rest) :: bs) o := .mk fun X A s E Rm B F =>
  wpAny_execs_cons (wpAny_Return_some (wpAny_mono (he.go X A s E Rm F) (fun v s₁ ⟨d, ow', X', r, nx, rep, F₁, t₁, hm⟩ => seqP_other (by simp) ⟨t₁, d, X', ρ, ow', nx.base B, rep, h d ow' r, F₁⟩) fun _ _ y => y))
theorem evG_call {fe : Expr} {f : Addr} {e : Expr} {es : List Expr} {pos : Pos} {ds : List D} {c r : Own} {R : D → Own → Prop} (hf : Ev G n env ρ (c ++ r) fe (.raw (.ref f))) (hk : keepIn G.K (.ref f) = true) (ha : EvAll G n env ρ (c ++ r) (e :: es) ds) (hs : noStar (e :: es) = true)
    (h : FnG G n (.ref f) ds c R) (hattr : notAttr fe = true) : EvG G n env ρ (c ++ r) (.Call fe (e :: es) [] pos) fun d ow' => ∃ c', R d c' ∧ ow' = c' ++ r := .mk fun X A s E Rm F => by
  refine Call_ (wpAny_mono (hf.go X A s E Rm F) (fun v s₁ q => ?_) fun _ _ x => x) (call_eq hattr)
  obtain ⟨q, g⟩ := q
  cases q
  have F₁ := F.keeps g
  refine callWith_K (G.X.keeps F₁.base) hk (wpAny_mono (ha.go pos X A s₁ E Rm F₁) (fun vs s₂ q₂ => ⟨G.X.keeps (F₁.keeps q₂.2).base, ?_⟩) fun _ _ x => x) (starEach_cons hs) (backTo_any (noStar_tail hs))
  have F₂ := F₁.keeps q₂.2
  refine wpAny_mono (h.go X A s₂ E vs Rm F₂.base F₂.live q₂.1 F₂.own.left) (fun v s₃ q₃ => ?_) fun _ _ x => x
  obtain ⟨d, c', X', r', rep, L⟩ := q₃
  obtain ⟨F₃, t₃, hm⟩ := F₂.leftover L
  have g₂ := g.trans q₂.2
  have old : ∀ b, s₂.heap.get? b = none → s.heap.get? b = none := fun b z => by
    cases e : s.heap.get? b with
    | none => rfl
    | some ob => rw [g₂.heap b ob e] at z; cases z
  exact ⟨d, c' ++ r, X', ⟨c', r', rfl⟩, ⟨L.newX.sub, fun a q => (L.newX.new a q).imp id (old a)⟩, rep, F₃, g₂.turn.trans t₃, fun b q => (hm b q).imp id (old b)⟩
end
end
section
noncomputable def Out.fnG (X : List Addr) (R : D → Loc → Own → Prop) : Out := ⟨X, R .none, fun _ _ => False, fun _ _ => False, R⟩
noncomputable abbrev cellsOwn (env : Env) (cs : List (Str × D)) : Own := cs.map fun p => ((env.cells.lookup p.1).getD 0, OO.cell p.2)
theorem end_core {G G' : Gd} {env : Env} {X X' : List Addr} {ρ' : Loc} {c ow' : Own} {s s' : Shared} {cs : List (Str × D)} (hG' : G'.H₀ = hideAll s.heap (keysOf c)) (hb : G.H₀.StaysIn G'.H₀) (hbase : ∀ a ∈ X, a ∈ X') (cX : ∀ a ∈ keysOf c, a ∈ X)
    (F' : Fits G' env X' ρ' ow' s') (hk : KeepBut (keysOf c) s s') (hcs : ∀ p ∈ cs, ρ'.lookup p.1 = some p.2 ∧ env.kindOf p.1 ≠ some .local ∧ ∃ a, env.cells.lookup p.1 = some a ∧ (a ∈ keysOf c ∨ s.heap.get? a = none)) (hnd : (cs.map (·.1)).Nodup) :
    ∃ X'', Left G X X'' c (cellsOwn env cs ++ ow') s s' ∧ ∀ v d, Rep X' s'.heap v d → Rep X'' s'.heap v d := by
  have ownN : ∀ b ∈ keysOf ow', b ∈ keysOf c ∨ s.heap.get? b = none := fun b q => by
    have h1 := F'.own.apart b q
    rw [hG'] at h1
    by_cases z : b ∈ keysOf c
    · exact .inl z
    · cases e : s.heap.get? b with
      | none => exact .inr rfl
      | some o => rw [hideAll_get _ e z] at h1; cases h1
  have cellN : ∀ b ∈ keysOf (cellsOwn env cs), (b ∈ keysOf c ∨ s.heap.get? b = none) ∧ ∃ p ∈ cs, env.cells.lookup p.1 = some b := fun b q => by
    obtain ⟨p', hp', rfl⟩ := List.mem_map.mp q
    obtain ⟨p, hp, rfl⟩ := List.mem_map.mp hp'
    obtain ⟨_, _, a, ha, z⟩ := hcs p hp
    show ((env.cells.lookup p.1).getD 0 ∈ _ ∨ s.heap.get? ((env.cells.lookup p.1).getD 0) = none) ∧ ∃ p' ∈ cs, env.cells.lookup p'.1 = some ((env.cells.lookup p.1).getD 0)
    rw [ha]; exact ⟨z, p, hp, ha⟩
  have hkeys : ∀ b ∈ keysOf (cellsOwn env cs ++ ow'), b ∈ keysOf c ∨ s.heap.get? b = none := fun b q => by
    rw [keysOf, List.map_append] at q
    rcases List.mem_append.mp q with q | q
    · exact (cellN b q).1
    · exact ownN b q
  have cellO : ∀ b ∈ keysOf (cellsOwn env cs), ∃ o, s'.heap.get? b = some o ∧ ¬ look o := fun b q => by
    obtain ⟨_, p, hp, hl⟩ := cellN b q
    obtain ⟨v, hv⟩ := F'.cel _ b hl
    obtain ⟨o, e, hd⟩ := id hv
    exact ⟨o, e, cell_look hv o e⟩
  have ownX : ∀ b ∈ keysOf ow', b ∈ X' := fun b q => by obtain ⟨p, hp, rfl⟩ := List.mem_map.mp q; exact (F'.owns p hp).2
  have kto : ∀ a ∈ keysOf (cellsOwn env cs ++ ow') ++ X, a ∈ X' ∨ ∀ o, s'.heap.get? a = some o → ¬ look o := fun a q => by
    rcases List.mem_append.mp q with q | q
    · rw [keysOf, List.map_append] at q
      rcases List.mem_append.mp q with q | q
      · obtain ⟨o, e, l⟩ := cellO a q
        exact .inr fun o' e' => by rw [e] at e'; cases e'; exact l
      · exact .inl (ownX a q)
    · exact .inl (hbase a q)
  refine ⟨keysOf (cellsOwn env cs ++ ow') ++ X, ⟨⟨fun a q => List.mem_append_right _ q, fun a q => ?_⟩, fun a q => ?_, ⟨fun p hp => ⟨?_, List.mem_append_left _ (List.mem_map.mpr ⟨p, hp, rfl⟩)⟩, ?_, fun b q => ?_⟩, hk, hkeys⟩, fun v d r => r.to kto⟩
  · rcases List.mem_append.mp q with q | q
    · exact (hkeys a q).imp (cX a) id
    · exact .inl q
  · rcases List.mem_append.mp q with q | q
    · rw [keysOf, List.map_append] at q
      rcases List.mem_append.mp q with q | q
      · obtain ⟨o, e, _⟩ := cellO a q; exact ⟨o, e⟩
      · exact F'.live a (ownX a q)
    · exact F'.live a (hbase a q)
  · rcases List.mem_append.mp hp with q | q
    · obtain ⟨z, hz, rfl⟩ := List.mem_map.mp q
      obtain ⟨h1, h2, a, ha, _⟩ := hcs z hz
      show OOIs _ _ ((env.cells.lookup z.1).getD 0) (.cell z.2)
      rw [ha]
      cases F'.vars _ _ h1 with
      | loc m v hk' _ _ _ => exact absurd hk' h2
      | cell c' v hk' hc' hv hr =>
        rw [ha] at hc'; cases hc'
        exact ⟨v, hv, hr.to kto⟩
    · exact (F'.owns p q).1.to kto
  · rw [keysOf, List.map_append, List.nodup_append]
    refine ⟨?_, F'.nd, fun a ha b hb q => ?_⟩
    · have : ∀ l : List (Str × D), (∀ p ∈ l, ∃ a, env.cells.lookup p.1 = some a) → (l.map (·.1)).Nodup → ((cellsOwn env l).map (·.1)).Nodup := by
        intro l
        induction l with
        | nil => intro _ _; exact .nil
        | cons p r ih =>
          intro h1 h2
          simp only [List.map_cons, List.nodup_cons] at h2 ⊢
          refine ⟨fun q => ?_, ih (fun p' hp' => h1 p' (List.mem_cons_of_mem _ hp')) h2.2⟩
          obtain ⟨p', hp', e⟩ := List.mem_map.mp q
          obtain ⟨p'', hp'', rfl⟩ := List.mem_map.mp hp'
          obtain ⟨a, ha⟩ := h1 p (List.mem_cons_self ..)
          obtain ⟨a', ha'⟩ := h1 p'' (List.mem_cons_of_mem _ hp'')
          simp only [ha, ha', Option.getD_some] at e
          subst e
          exact h2.1 (List.mem_map.mpr ⟨p'', hp'', F'.inj _ _ _ ha' ha⟩)
      exact this cs (fun p hp => let ⟨_, _, a, ha, _⟩ := hcs p hp; ⟨a, ha⟩) hnd
    · subst q
      obtain ⟨_, p, hp, hl⟩ := cellN a ha
      obtain ⟨p', hp', rfl⟩ := List.mem_map.mp hb
      exact (F'.sep p' hp').2 _ _ hl rfl
  · have hn : G'.H₀.get? b = none → G.H₀.get? b = none := fun z => by
      cases e : G.H₀.get? b with
      | none => rfl
      | some o => rw [hb b o e] at z; cases z
    rw [keysOf, List.map_append] at q
    rcases List.mem_append.mp q with q | q
    · refine hn ?_
      obtain ⟨_, p, hp, hl⟩ := cellN b q
      cases e : G'.H₀.get? b with
      | none => rfl
      | some o => exact absurd (.inr (.inl ⟨_, hl⟩)) (F'.apart b o e)
    · exact hn (F'.own.apart b q)
noncomputable def Gd.at (G : Gd) (s : Shared) (c : Own) (hb : G.H₀.StaysIn s.heap) (hc : ∀ b ∈ keysOf c, G.H₀.get? b = none) : Gd :=
  { G with
    H₀ := hideAll s.heap (keysOf c)
    X := G.X.keeps fun b o e => hideAll_get _ (hb b o e) fun q => (by rw [hc b q] at e; cases e)
    T := G.T.keeps fun b o e => hideAll_get _ (hb b o e) fun q => (by rw [hc b q] at e; cases e) }
theorem fnG_of {G : Gd} {n : Nat} {f : Addr} {oc : Value} {od : Option Addr} {osl : Array (Option Value)} {fd : FuncData} {body : List Stmt} {ns : List Str} {ds : List D} {c : Own} {R : D → Own → Prop} {R' : Nat → D → Loc → Own → Prop}
    (ho : G.K.lookup f = some ⟨oc, od, .func fd, osl⟩) (hcd : codeIn G.K fd.code fd.qualname = true) (hbody : fd.body = .stmts body)
    (hbind : ∀ vs : List Value, vs.length = ds.length → bindArgs fd ⟨vs, []⟩ = pure (ns.zip vs)) (hclo : fd.closure = []) (hnd : ns.Nodup) (hlen : ns.length = ds.length)
    (hkind : (ns.all fun x => fd.scope.names.lookup x == some .local || fd.scope.names.lookup x == some .cell) = true)
    (hgl : fd.globals = mainGlobals) (hbl : fd.builtins = builtinsNs)
    (hco : fd.scope.isCoroutine = false) (hgen : fd.scope.isGenerator = false) (hk : fd.scope.kind = .function)
    (h : ∀ G' : Gd, G'.K = G.K → (∀ b ∈ keysOf c, G'.H₀.get? b = none) → ∀ X L, Ex G' n (callEnvC fd L f) (ns.zip ds) c [body] (Out.fnG X (R' L)))
    (hR : ∀ L d ρ' ow', R' L d ρ' ow' → ∃ cs : List (Str × D), (∀ p ∈ cs, ρ'.lookup p.1 = some p.2 ∧ fd.scope.names.lookup p.1 = some .cell) ∧ (cs.map (·.1)).Nodup ∧ R d (cellsOwn (callEnvC fd L f) cs ++ ow')) : FnG G (n + 1) (.ref f) ds c R := .mk <| fun X A s E vs Rm hb hX ra ow => by
  have K₁ : G.K.In s.heap := G.X.keeps hb
  have hvl : vs.length = ds.length := ra.length
  have hkd : ∀ x ∈ ns.zip vs, fd.scope.names.lookup x.1 = some .local ∨ (fd.scope.names.lookup x.1 = some .cell ∧ ((cellsFrom (s.heap.objs.size + 1) fd.scope.names []).lookup x.1).isSome = true) := fun x hx => by
    have hx1 : x.1 ∈ ns := (List.of_mem_zip (a := x.1) (b := x.2) hx).1
    have := List.all_eq_true.mp hkind x.1 hx1
    rcases Bool.or_eq_true_iff.mp this with q | q
    · exact .inl (by simpa using q)
    · have q' : fd.scope.names.lookup x.1 = some .cell := by simpa using q
      exact .inr ⟨q', cellsFrom_some _ _ _ (.inl q')⟩
  refine codeAny_call_cells Rm.depth (K₁ _ _ ho) rfl (G.T.nolimit.keeps hb) (codeRec_of K₁ hcd) hbody (hbind vs hvl) hclo hkd (fun s₁ C => ?_) hco hgen hk
  have hg : Grow s s₁ := by obtain ⟨h', tk, rfl, k⟩ := C.done; exact .of k
  have above : ∀ y a, (callEnvC fd s.heap.objs.size f).cells.lookup y = some a → s.heap.get? a = none := fun y a q => none_at (Nat.le_of_lt (C.above y a (mem_of_lookup q)))
  have lnone : s.heap.get? (callEnvC fd s.heap.objs.size f).locals = none := none_at (Nat.le_refl _)
  have ownS : ∀ p ∈ c, ∃ o, s.heap.get? p.1 = some o := fun p hp => own_there (ow.all p hp).1
  have cX : ∀ a ∈ keysOf c, a ∈ X := fun a q => by obtain ⟨p, hp, rfl⟩ := List.mem_map.mp q; exact (ow.all p hp).2
  have F : Fits (G.at s c hb ow.apart) (callEnvC fd s.heap.objs.size f) X (ns.zip ds) c s₁ := by
    refine ⟨fun b o e => hg.heap b o (of_hideAll _ e), hk, hgl, hbl, ⟨_, C.toInCall.ns⟩, fun x d' e => ?_, fun p hp => ⟨(ow.all p hp).1.keeps hg.heap, (ow.all p hp).2⟩, ow.nd, hX.keeps hg.heap, fun b o e q => ?_, cells_mem_lookup C.apart, fun y a e => ⟨_, C.cell y a e⟩, fun p hp => ?_⟩
    · obtain ⟨v, hv, hr⟩ := zip_lookup ra e
      have hnd' : ((ns.zip vs).map (·.1)).Nodup := by rw [List.map_fst_zip (by omega)]; exact hnd
      rcases hkd (x, v) (mem_of_lookup hv) with q | ⟨q, q2⟩
      · exact .loc _ v q C.toInCall.ns (bindL_get hnd' q (.inl hv)) (hr.keeps hg.heap)
      · obtain ⟨a, hc⟩ := Option.isSome_iff_exists.mp q2
        have := C.cell x a hc
        rw [bindC_get hnd' (by show fd.scope.names.lookup x ≠ _; rw [q]; decide) (.inl hv)] at this
        exact .cell a v (.inl q) hc this (hr.keeps hg.heap)
    · have e' := of_hideAll _ e
      rcases q with q | ⟨y, q⟩ | q
      · rw [q, lnone] at e'; cases e'
      · rw [above y b q] at e'; cases e'
      · have : (hideAll s.heap (keysOf c)).get? b = none := hideAll_none _ q
        rw [show (hideAll s.heap (keysOf c)).get? b = some o from e] at this; cases this
    · obtain ⟨o, e⟩ := ownS p hp
      exact ⟨fun q => (by rw [q, lnone] at e; cases e), fun n a hc q => (by rw [q, above n a hc] at e; cases e)⟩
  refine wpAny_mono ((h (G.at s c hb ow.apart) rfl (fun b q => hideAll_none _ q) X s.heap.objs.size).go X _ s₁ _ Rm.deeper (fun _ q => q) F) (fun fl s' q => ?_) fun _ _ y => y
  obtain ⟨t, q⟩ := q
  have hkeep : KeepBut (keysOf c) s s' := by
    obtain ⟨⟨h₁, t₁, rfl⟩, k₁⟩ := hg
    obtain ⟨⟨h₂, t₂, rfl⟩, k₂⟩ := t
    refine ⟨⟨h₂, t₂, rfl⟩, fun b o p e => k₂ b o (fun z => ?_) (k₁ b o e)⟩
    rcases z with z | ⟨y, z⟩ | z
    · rw [z, lnone] at e; cases e
    · rw [above y b z] at e; cases e
    · exact p z
  have fin : ∀ (v : Value) (d : D) (X' : List Addr) (ρ' : Loc) (ow' : Own), (∀ a ∈ X, a ∈ X') → Rep X' s'.heap v d → R' s.heap.objs.size d ρ' ow' → Fits (G.at s c hb ow.apart) (callEnvC fd s.heap.objs.size f) X' ρ' ow' s' → ∃ d c' X', R d c' ∧ Rep X' s'.heap v d ∧ Left G X X' c c' s s' := fun v d X' ρ' ow' hB r hr F' => by
    obtain ⟨cs, hcs, hn, hRR⟩ := hR s.heap.objs.size d ρ' ow' hr
    obtain ⟨X'', L, hto⟩ := end_core (cs := cs) rfl (fun b o e => hideAll_get _ (hb b o e) fun z => by rw [ow.apart b z] at e; cases e) hB cX F' hkeep (fun p hp => by
      obtain ⟨h1, h2⟩ := hcs p hp
      have h3 : ((cellsFrom (s.heap.objs.size + 1) fd.scope.names []).lookup p.1).isSome = true := cellsFrom_some _ _ _ (.inl h2)
      obtain ⟨a, ha⟩ := Option.isSome_iff_exists.mp h3
      exact ⟨h1, by show fd.scope.names.lookup p.1 ≠ _; rw [h2]; decide, a, ha, .inr (above p.1 a ha)⟩) hn
    exact ⟨d, _, X'', hRR, hto v d r, L⟩
  cases fl with
  | ret v => obtain ⟨d, X', ρ', ow', hB, r, hr, F'⟩ := q; exact fin v d X' ρ' ow' hB r hr F'
  | next => obtain ⟨X', ρ', ow', hB, hr, F'⟩ := q; exact fin .none .none X' ρ' ow' hB .none hr F'
  | _ => obtain ⟨_, _, _, _, e, _⟩ := q; exact e.elim
end
section
theorem lookup_rev {α : Type} : ∀ {l : List (Str × α)} {x : Str} {v : α}, (l.map (·.1)).Nodup → l.lookup x = some v → l.reverse.lookup x = some v := by
  intro l x v hn h
  have hm := mem_of_lookup h
  have hmr : (x, v) ∈ l.reverse := List.mem_reverse.mpr hm
  have hnr : (l.reverse.map (·.1)).Nodup := by rw [List.map_reverse]; exact ((List.reverse_perm _).nodup_iff.mpr hn)
  have : ∀ {l : List (Str × α)}, (l.map (·.1)).Nodup → (x, v) ∈ l → l.lookup x = some v := by
    intro l
    induction l with
    | nil => intro _ h; cases h
    | cons p r ih =>
      intro hn h
      simp only [List.map_cons, List.nodup_cons] at hn
      rw [List.lookup_cons]
      rcases List.mem_cons.mp h with e | h
      · subst e; simp
      · have hne : (x == p.1) = false := by
          rw [beq_eq_false_iff_ne]
          exact fun q => hn.1 (List.mem_map.mpr ⟨_, h, q⟩)
        rw [hne]; exact ih hn.2 h
  exact this hnr hmr
theorem fnG_K {G : Gd} {n : Nat} {K : Frag} (hK : G.K = K) {f : Addr} {body : List Stmt} (ρ : Loc) (c : Own) {R : D → Own → Prop} {R' : Nat → D → Loc → Own → Prop}
    (ho : isFnAt K f = true) (hcd : codeIn K (fnAt K f).code (fnAt K f).qualname = true) (hbody : (fnAt K f).body = .stmts body)
    (hbind : ∀ vs : List Value, vs.length = ρ.length → bindArgs (fnAt K f) ⟨vs, []⟩ = pure ((ρ.map (·.1)).zip vs)) (hclo : (fnAt K f).closure = []) (hnd : noDup (ρ.map (·.1)) = true)
    (hkind : ((ρ.map (·.1)).all fun x => (fnAt K f).scope.names.lookup x == some .local || (fnAt K f).scope.names.lookup x == some .cell) = true)
    (hgl : (fnAt K f).globals = mainGlobals) (hbl : (fnAt K f).builtins = builtinsNs)
    (hco : (fnAt K f).scope.isCoroutine = false) (hgen : (fnAt K f).scope.isGenerator = false) (hk : (fnAt K f).scope.kind = .function)
    (h : ∀ G' : Gd, G'.K = K → (∀ b ∈ keysOf c, G'.H₀.get? b = none) → ∀ X L, Ex G' n (callEnvC (fnAt K f) L f) ρ c [body] (Out.fnG X (R' L)))
    (hR : ∀ L d ρ' ow', R' L d ρ' ow' → ∃ cs : List (Str × D), (∀ p ∈ cs, ρ'.lookup p.1 = some p.2 ∧ (fnAt K f).scope.names.lookup p.1 = some .cell) ∧ (cs.map (·.1)).Nodup ∧ R d (cellsOwn (callEnvC (fnAt K f) L f) cs ++ ow')) : FnG G (n + 1) (.ref f) (ρ.map (·.2)) c R := by
  subst hK
  obtain ⟨oc, od, osl, e⟩ := fnAt_of ho
  have hz : (ρ.map (·.1)).zip (ρ.map (·.2)) = ρ := by
    clear h hkind hnd hbind
    induction ρ with
    | nil => rfl
    | cons x r ih => simp [List.zip_map']
  refine fnG_of e hcd hbody (ns := ρ.map (·.1)) ?_ hclo (nodup_of hnd) (by simp) hkind hgl hbl hco hgen hk (fun G' hK' hb' X L => ?_) hR
  · intro vs hv; exact hbind vs (by simpa using hv)
  · rw [hz]; exact h G' hK' hb' X L
theorem no_cells {K : Frag} {f : Addr} {R : D → Own → Prop} : ∀ L d (ρ' : Loc) ow', R d ow' → ∃ cs : List (Str × D), (∀ p ∈ cs, ρ'.lookup p.1 = some p.2 ∧ (fnAt K f).scope.names.lookup p.1 = some .cell) ∧ (cs.map (·.1)).Nodup ∧ R d (cellsOwn (callEnvC (fnAt K f) L f) cs ++ ow') :=
  fun L d ρ' ow' r => ⟨[], fun _ q => (nomatch q), .nil, r⟩
structure FnGd (G : Gd) (n : Nat) (df : D) (ds : List D) (c : Own) (R : D → Own → Prop) : Prop where
  go : ∀ (X : List Addr) (A : Around) (s : Shared) (E : Value → Shared → Prop) (v : Value) (vs : List Value), Room n A → G.H₀.StaysIn s.heap → Live X s.heap → Rep X s.heap v df → RepAll X s.heap vs ds → OwnAll G X s.heap c →
    wpAny (model G.prog G.w) A (call v vs) (fun v s' => ∃ d c' X', R d c' ∧ Rep X' s'.heap v d ∧ Left G X X' c c' s s') E s
noncomputable abbrev closOf (cl : List (Str × Addr × D)) : List (Str × Addr) := cl.map fun p => (p.1, p.2.1)
noncomputable abbrev cellsAt (cl : List (Str × Addr × D)) : Own := cl.map fun p => (p.2.1, OO.cell p.2.2)
noncomputable abbrev namesAt (cl : List (Str × Addr × D)) : Loc := cl.map fun p => (p.1, p.2.2)
noncomputable abbrev closEnv (qual : Str) (scope : Scope) (clos : List (Str × Addr)) (L a : Addr) (cd : Value) : Env := newEnv scope L mainGlobals clos (qual ++ ".<locals>.") (some a) cd none builtinsNs
theorem clos_lookup : ∀ {cl : List (Str × Addr × D)} {x : Str} {a : Addr}, (closOf cl).lookup x = some a → ∃ d, (namesAt cl).lookup x = some d ∧ (a, OO.cell d) ∈ cellsAt cl
  | [], _, _, h => by cases h
  | p :: r, x, a, h => by
    simp only [closOf, List.map_cons, List.lookup_cons] at h
    simp only [namesAt, cellsAt, List.map_cons, List.lookup_cons]
    cases hb : x == p.1 with
    | true => rw [hb] at h; cases h; exact ⟨_, rfl, List.mem_cons_self ..⟩
    | false =>
      rw [hb] at h
      obtain ⟨d, h1, h2⟩ := clos_lookup h
      exact ⟨d, h1, List.mem_cons_of_mem _ h2⟩
theorem names_lookup : ∀ {cl : List (Str × Addr × D)} {x : Str} {d : D}, (namesAt cl).lookup x = some d → ∃ a, (closOf cl).lookup x = some a ∧ (a, OO.cell d) ∈ cellsAt cl
  | [], _, _, h => by cases h
  | p :: r, x, d, h => by
    simp only [namesAt, List.map_cons, List.lookup_cons] at h
    simp only [closOf, cellsAt, List.map_cons, List.lookup_cons]
    cases hb : x == p.1 with
    | true => rw [hb] at h; cases h; exact ⟨_, rfl, List.mem_cons_self ..⟩
    | false =>
      rw [hb] at h
      obtain ⟨a, h1, h2⟩ := names_lookup h
      exact ⟨a, h1, List.mem_cons_of_mem _ h2⟩
theorem clos_pair : ∀ {cl : List (Str × Addr × D)}, ((cellsAt cl).map (·.1)).Nodup → (closOf cl).Pairwise fun x y => x.2 ≠ y.2
  | [], _ => .nil
  | p :: r, hn => by
    simp only [List.map_cons, List.nodup_cons] at hn
    simp only [closOf, List.map_cons, List.pairwise_cons]
    refine ⟨fun z hz w => ?_, clos_pair hn.2⟩
    obtain ⟨z', hz', rfl⟩ := List.mem_map.mp hz
    exact hn.1 (List.mem_map.mpr ⟨(z'.2.1, OO.cell z'.2.2), List.mem_map.mpr ⟨z', hz', rfl⟩, w.symm⟩)
theorem clos_own : ∀ {cl : List (Str × Addr × D)}, (cl.map (·.1)).Nodup → ∀ p ∈ cl, (closOf cl).lookup p.1 = some p.2.1
  | [], _, p, hp => by cases hp
  | p :: r, hcn, p', hp' => by
    simp only [List.map_cons, List.nodup_cons] at hcn
    simp only [closOf, List.map_cons, List.lookup_cons]
    rcases List.mem_cons.mp hp' with rfl | hp'
    · simp
    · have hne : (p'.1 == p.1) = false := by
        rw [beq_eq_false_iff_ne]
        exact fun z => hcn.1 (List.mem_map.mpr ⟨p', hp', z⟩)
      rw [hne]; exact clos_own hcn.2 p' hp'
theorem fnG_clos {G : Gd} {n : Nat} {qual : Str} {params : Arguments} {body : List Stmt} {scope : Scope} {cl : List (Str × Addr × D)} {ns : List Str} {ds : List D} {c : Own} {R : D → Own → Prop} {R' : D → Loc → Own → Prop}
    (hbind : ∀ (fd : FuncData) (vs : List Value), FnTold qual params (.stmts body) scope (closOf cl) fd → vs.length = ds.length → bindArgs fd ⟨vs, []⟩ = pure (ns.zip vs)) (hnd : ns.Nodup) (hlen : ns.length = ds.length)
    (hkind : ∀ x ∈ ns, scope.names.lookup x = some .local) (hfree : ∀ p ∈ cl, scope.names.lookup p.1 = some .free) (hcell : ∀ x ∈ scope.names, x.2 ≠ .cell) (hcn : (cl.map (·.1)).Nodup)
    (hco : scope.isCoroutine = false) (hgen : scope.isGenerator = false) (hk : scope.kind = .function)
    (h : ∀ G' : Gd, G'.K = G.K → (∀ b ∈ keysOf (cellsAt cl ++ c), G'.H₀.get? b = none) → ∀ X L a cd, Ex G' n (closEnv qual scope (closOf cl) L a cd) (ns.zip ds ++ namesAt cl) c [body] (Out.fnG X R'))
    (hR : ∀ d ρ' ow', R' d ρ' ow' → (∀ p ∈ cl, ρ'.lookup p.1 = some p.2.2) ∧ R d (cellsAt cl ++ ow')) : FnGd G (n + 1) (.fn (FnTold qual params (.stmts body) scope (closOf cl)) qual) ds (cellsAt cl ++ c) R := .mk <| fun X A s E v vs Rm hb hX hv ra ow => by
  cases hv with | @fn a ob fd ho hcls hdat hT hf hcd =>
  have hT' := hT
  obtain ⟨t1, t2, t3, t4, t5, t6, t7, t8, t9⟩ := hT
  have K₁ : G.K.In s.heap := G.X.keeps hb
  have hvl : vs.length = ds.length := ra.length
  have hrec : s.heap.CodeRec fd.code fd.qualname := by
    rw [t1]
    generalize fd.code = cv at hcd
    cases hcd with | code e1 e2 e3 e4 e5 => exact ⟨_, _, _, _, rfl, e1, e3, e4⟩
  refine wpAny_call (codeAny_call_function Rm.depth ho hdat (by rw [t4]; exact hco) (by rw [t4]; exact hgen) t3 hrec ?_)
  rw [hbind fd vs hT' hvl]
  refine wpAny_pure ?_
  rw [t4, t5, t6, t1, t9]
  have lnone : s.heap.get? s.heap.objs.size = none := none_at (Nat.le_refl _)
  refine wpAny_newFunctionEnv hcell (fun x hx => hkind x.1 (List.of_mem_zip (a := x.1) (b := x.2) hx).1) (fun h' hns hs => ?_) hk
  have up : ∀ b o, s.heap.get? b = some o → h'.get? b = some o := fun b o e => hs.extBut b o (Nat.ne_of_lt (Heap.lt_size e)) (Heap.get?_push_of_some _ e)
  have hg : Grow s { s with heap := h', toks := s.toks + (ns.zip vs).length } := .of up
  refine ⟨(G.T.nolimit.keeps hb).keeps up, codeAny_func ?_⟩
  have ownS : ∀ p ∈ cellsAt cl ++ c, ∃ o, s.heap.get? p.1 = some o := fun p hp => own_there (ow.all p hp).1
  have cX : ∀ a ∈ keysOf (cellsAt cl ++ c), a ∈ X := fun a q => by obtain ⟨p, hp, rfl⟩ := List.mem_map.mp q; exact (ow.all p hp).2
  have hnd2 := ow.nd
  rw [keysOf, List.map_append, List.nodup_append] at hnd2
  have cellS : ∀ y b, (closOf cl).lookup y = some b → ∃ d, (namesAt cl).lookup y = some d ∧ (b, OO.cell d) ∈ cellsAt cl := fun y b q => clos_lookup q
  have cellK : ∀ y b, (closOf cl).lookup y = some b → b ∈ keysOf (cellsAt cl) := fun y b q => by obtain ⟨d, _, hm⟩ := cellS y b q; exact List.mem_map.mpr ⟨_, hm, rfl⟩
  have F : Fits (G.at s (cellsAt cl ++ c) hb ow.apart) (closEnv qual scope (closOf cl) s.heap.objs.size a fd.code) X (ns.zip ds ++ namesAt cl) c { s with heap := h', toks := s.toks + (ns.zip vs).length } := by
    refine ⟨fun b o e => hg.heap b o (of_hideAll _ e), hk, rfl, rfl, ⟨_, hns⟩, fun x d' e => ?_, fun p hp => ?_, hnd2.2.1, hX.keeps hg.heap, fun b o e q => ?_, fun y y' b q q' => ?_, fun y b q => ?_, fun p hp => ⟨fun q => ?_, fun y b hy q => ?_⟩⟩
    · rw [List.lookup_append] at e
      cases e1 : (ns.zip ds).lookup x with
      | some d'' =>
        rw [e1] at e
        cases e
        obtain ⟨v', hv', hr⟩ := zip_lookup ra e1
        have hnd' : ((ns.zip vs).map (·.1)).Nodup := by rw [List.map_fst_zip (by omega)]; exact hnd
        exact .loc _ v' (hkind x (List.of_mem_zip (a := x) (b := v') (mem_of_lookup hv')).1) hns (lookup_rev hnd' hv') (hr.keeps hg.heap)
      | none =>
        rw [e1] at e
        have e : (namesAt cl).lookup x = some d' := e
        obtain ⟨b, hb', hm⟩ := names_lookup e
        obtain ⟨v', hv', hr⟩ := (ow.all _ (List.mem_append_left _ hm)).1
        obtain ⟨p, hp, hpe⟩ := List.mem_map.mp (mem_of_lookup e)
        have hx : p.1 = x := (Prod.mk.inj hpe).1
        exact .cell b v' (.inr (by rw [← hx]; exact hfree p hp)) hb' (hv'.keeps hg.heap) (hr.keeps hg.heap)
    · have := ow.all p (List.mem_append_right _ hp)
      exact ⟨this.1.keeps hg.heap, this.2⟩
    · have e0 : (hideAll s.heap (keysOf (cellsAt cl ++ c))).get? b = some o := e
      have e' := of_hideAll _ e0
      have hh : ∀ z, z ∈ keysOf (cellsAt cl ++ c) → z ≠ b := fun z hz w => by
        subst w
        have : (hideAll s.heap (keysOf (cellsAt cl ++ c))).get? z = none := hideAll_none _ hz
        rw [this] at e0; cases e0
      rcases q with q | ⟨y, q⟩ | q
      · rw [q] at e'; exact absurd (Heap.lt_size e') (Nat.lt_irrefl _)
      · exact hh b (by rw [keysOf, List.map_append]; exact List.mem_append_left _ (cellK y b q)) rfl
      · exact hh b (by rw [keysOf, List.map_append]; exact List.mem_append_right _ q) rfl
    · have hp : (closOf cl).Pairwise fun x y => x.2 ≠ y.2 := clos_pair hnd2.1
      exact cells_mem_lookup hp y y' b q q'
    · obtain ⟨d, _, hm⟩ := cellS y b q
      obtain ⟨v', hv', _⟩ := (ow.all _ (List.mem_append_left _ hm)).1
      exact ⟨_, hv'.keeps hg.heap⟩
    · obtain ⟨o, e⟩ := ownS p (List.mem_append_right _ hp)
      rw [show p.1 = s.heap.objs.size from q] at e
      exact Nat.lt_irrefl _ (Heap.lt_size e)
    · exact hnd2.2.2 b (cellK y b hy) p.1 (List.mem_map.mpr ⟨p, hp, rfl⟩) q.symm
  refine wpAny_mono ((h (G.at s (cellsAt cl ++ c) hb ow.apart) rfl (fun b q => hideAll_none _ q) X s.heap.objs.size a fd.code).go X _ _ _ Rm.deeper (fun _ q => q) F) (fun fl s' q => ?_) fun _ _ y => y
  obtain ⟨t, q⟩ := q
  have hkeep : KeepBut (keysOf (cellsAt cl ++ c)) s s' := by
    obtain ⟨⟨h₂, t₂, rfl⟩, k₂⟩ := t
    refine ⟨⟨h₂, t₂, rfl⟩, fun b o p e => k₂ b o (fun z => ?_) (up b o e)⟩
    rcases z with z | ⟨y, z⟩ | z
    · rw [z] at e; exact Nat.lt_irrefl _ (Heap.lt_size e)
    · exact p (by rw [keysOf, List.map_append]; exact List.mem_append_left _ (cellK y b z))
    · exact p (by rw [keysOf, List.map_append]; exact List.mem_append_right _ z)
  have fin : ∀ (v : Value) (d : D) (X' : List Addr) (ρ' : Loc) (ow' : Own), (∀ a ∈ X, a ∈ X') → Rep X' s'.heap v d → R' d ρ' ow' → Fits (G.at s (cellsAt cl ++ c) hb ow.apart) (closEnv qual scope (closOf cl) s.heap.objs.size a fd.code) X' ρ' ow' s' → ∃ d c' X', R d c' ∧ Rep X' s'.heap v d ∧ Left G X X' (cellsAt cl ++ c) c' s s' := fun v d X' ρ' ow' hB r hr F' => by
    obtain ⟨hcs, hRR⟩ := hR d ρ' ow' hr
    have hlk : ∀ p ∈ cl, (closOf cl).lookup p.1 = some p.2.1 := clos_own hcn
    obtain ⟨X'', L, hto⟩ := end_core (cs := cl.map fun p => (p.1, p.2.2)) rfl (fun b o e => hideAll_get _ (hb b o e) fun z => (by rw [ow.apart b z] at e; cases e)) hB cX F' hkeep (fun p hp => by
      obtain ⟨p', hp', rfl⟩ := List.mem_map.mp hp
      refine ⟨hcs p' hp', by show scope.names.lookup p'.1 ≠ _; rw [hfree p' hp']; decide, p'.2.1, hlk p' hp', .inl ?_⟩
      rw [keysOf, List.map_append]; exact List.mem_append_left _ (cellK _ _ (hlk p' hp'))) (by rw [List.map_map]; exact hcn)
    have e : cellsOwn (closEnv qual scope (closOf cl) s.heap.objs.size a fd.code) (cl.map fun p => (p.1, p.2.2)) = cellsAt cl := by
      simp only [cellsOwn, List.map_map]
      refine List.map_congr_left fun p hp => ?_
      show (((closOf cl).lookup p.1).getD 0, OO.cell p.2.2) = _
      rw [hlk p hp]; rfl
    rw [e] at L
    exact ⟨d, _, X'', hRR, hto v d r, L⟩
  cases fl with
  | ret v => obtain ⟨d, X', ρ', ow', hB, r, hr, F'⟩ := q; exact fin v d X' ρ' ow' hB r hr F'
  | next => obtain ⟨X', ρ', ow', hB, hr, F'⟩ := q; exact fin .none .none X' ρ' ow' hB .none hr F'
  | _ => obtain ⟨_, _, _, _, e, _⟩ := q; exact e.elim
end
section
open Builtin Builtin.ObjectAttr
theorem ns_look_in {h : Heap} {a : Addr} {m : Str → Option Value} (x : h.Ns a m) : ∃ o, h.get? a = some o ∧ ∀ name, lookIn name o = some (m name) := by
  obtain ⟨o, es, ep, ho, hd, hs, hm⟩ := x
  refine ⟨o, ho, fun name => ?_⟩
  unfold lookIn
  rw [hd]
  dsimp only
  rw [← hm name]
  unfold nsFind findBy
  rw [← Array.find?_toList]
  cases e : es.toList.find? (fun e => e.key.isStr name) with
  | some en => rfl
  | none =>
    dsimp only
    rw [if_neg]
    · rfl
    · intro q
      obtain ⟨en, hen, hr⟩ := List.any_eq_true.mp q
      obtain ⟨n, t, hk⟩ := hs en (by simpa using hen)
      unfold DictEntry.refKey at hr
      rw [hk] at hr; cases hr
noncomputable def plainCls (K : Frag) (C : Addr) : Bool := (clsIn K C).any (·.hasDict) && findIn K (.ref C) "__getattribute__" == some (some (.builtin "object.__getattribute__")) && findIn K (.ref C) "__getattr__" == some none && findIn K (.ref C) "__setattr__" == some (some (.builtin "object.__setattr__")) && plainOver K C
noncomputable def ownName (K : Frag) (C : Addr) (x : Str) : Bool := findIn K (.ref C) x == some none
noncomputable def methAt (K : Frag) (C : Addr) (x : Str) (f : Addr) : Bool := findIn K (.ref C) x == some (some (.ref f)) && typeIn K (.ref f) == some (.type "function")
structure PlainCls (K : Frag) (C : Addr) : Prop where
  cd : ∃ cd, clsIn K C = some cd ∧ cd.hasDict = true
  ga : findIn K (.ref C) "__getattribute__" = some (some (.builtin "object.__getattribute__"))
  gat : findIn K (.ref C) "__getattr__" = some none
  sa : findIn K (.ref C) "__setattr__" = some (some (.builtin "object.__setattr__"))
  over : plainOver K C = true
theorem PlainCls.of {K : Frag} {C : Addr} (h : plainCls K C = true) : PlainCls K C := by
  unfold plainCls at h
  simp only [Bool.and_eq_true, beq_iff_eq] at h
  obtain ⟨⟨⟨⟨h1, h2⟩, h3⟩, h4⟩, h5⟩ := h
  exact ⟨any_some h1, h2, h3, h4, h5⟩
noncomputable def handedD : D → Bool | .raw (.builtin _) => false | _ => true
theorem handed_of {X : List Addr} {h : Heap} {v : Value} {d : D} (r : Rep X h v d) (hd : handedD d = true) : handedIn v = true := by
  cases r with
  | raw v => cases v <;> first | rfl | (cases hd; done)
  | _ => rfl
theorem inst_at {h : Heap} {x C dx : Addr} {m : Str → Option Value} (hx : h.get? x = some (instObj C dx)) (hn : h.Ns dx m) : ∃ o, InstAt h x (instObj C dx) C (some o) ∧ ∀ name, lookIn name o = some (m name) := by
  obtain ⟨o, ho, hl⟩ := ns_look_in hn
  exact ⟨o, ⟨hx, rfl, rfl, ho⟩, hl⟩
section
variable {prog : Program} {w : World} {A : Around} {E : Value → Shared → Prop} {s : Shared} {K : Frag} {x C dx : Addr} {m : Str → Option Value} {name : Str}
theorem attr_own {expr : Bool} {v : Value} {Q : Value → Shared → Prop} (X : K.In s.heap) (P : PlainCls K C) (hx : s.heap.get? x = some (instObj C dx)) (hn : s.heap.Ns dx m) (hm : m name = some v) (hc : ownName K C name = true) (hh : handedIn v = true) (h : Q v { s with toks := s.toks + 1 }) :
    wpAny (model prog w) A (getAttr (.ref x) name expr) Q E s := by
  obtain ⟨o, I, hl⟩ := inst_at hx hn
  obtain ⟨cd, hcd, hd⟩ := P.cd
  refine get_value X I P.ga ?_ hh h
  unfold findObj
  rw [hcd, Option.bind_some, show findIn K (.ref C) name = some none from beq_iff_eq.mp hc, Option.bind_some]
  dsimp only
  rw [Option.bind_some, Option.bind_some]
  have : W.ownOf cd (some o) name = some (some v) := by
    unfold W.ownOf
    rw [if_pos hd]; dsimp only
    rw [hl name, hm]
  rw [this]; rfl
theorem method_of {f : Addr} {pl : Sem Bool} {Q : Value × List Value → Shared → Prop} (X : K.In s.heap) (P : PlainCls K C) (hx : s.heap.get? x = some (instObj C dx)) (hn : s.heap.Ns dx m) (hm : m name = none) (hf : methAt K C name f = true) (h : Q (.ref f, [.ref x]) s) :
    wpAny (model prog w) A (getMethod (.ref x) name pl) Q E s := by
  obtain ⟨o, I, hl⟩ := inst_at hx hn
  unfold methAt at hf
  obtain ⟨h1, h2⟩ := Bool.and_eq_true_iff.mp hf
  have h1 := beq_iff_eq.mp h1
  have h2 := beq_iff_eq.mp h2
  unfold getMethod
  refine wpAny_bind ((I.type.andThen (looks_findIn X P.ga)).here ?_)
  dsimp only
  rw [if_neg (by decide)]
  refine wpAny_bind ((I.type.andThen (looks_findIn X P.gat)).here ?_)
  rw [if_neg (by decide)]
  refine wpAny_bind ((I.type.andThen (looks_findIn X h1)).here ?_)
  dsimp only
  refine wpAny_bind ((looks_typeIn X h2).here ?_)
  rw [if_neg (by decide)]
  refine wpAny_bind (wpAny_loadPart hx ?_)
  dsimp only
  refine wpAny_bind (wpAny_nsGet hn ?_)
  rw [hm, if_neg (by decide)]
  exact wpAny_bind (wpAny_rule (wpAny_pure h))
theorem method_own {v : Value} {pl : Sem Bool} {Q : Value × List Value → Shared → Prop} (X : K.In s.heap) (P : PlainCls K C) (hx : s.heap.get? x = some (instObj C dx)) (hn : s.heap.Ns dx m) (hm : m name = some v) (hc : ownName K C name = true) (hh : handedIn v = true) (h : Q (v, []) { s with toks := s.toks + 1 }) :
    wpAny (model prog w) A (getMethod (.ref x) name pl) Q E s := by
  obtain ⟨o, I, hl⟩ := inst_at hx hn
  unfold getMethod
  refine wpAny_bind ((I.type.andThen (looks_findIn X P.ga)).here ?_)
  dsimp only
  rw [if_neg (by decide)]
  refine wpAny_bind ((I.type.andThen (looks_findIn X P.gat)).here ?_)
  rw [if_neg (by decide)]
  refine wpAny_bind ((I.type.andThen (looks_findIn X (beq_iff_eq.mp hc))).here ?_)
  dsimp only
  exact wpAny_bind (attr_own X P hx hn hm hc hh (wpAny_pure h))
theorem nsSet_b {k : Nat} {v : Value} {Q : Unit → Shared → Prop} (hn : NsB s.heap dx m k) (h : ∀ h' k', (k' = k ∨ (k' = k + 1 ∧ m name = none)) → NsB h' dx (fun y => if y = name then some v else m y) k' → Heap.SameBut dx s.heap h' → Q () { s with heap := h', toks := s.toks + 1 }) : wpAny (model prog w) A (nsSet dx name v) Q E s := by
  obtain ⟨o, es, ep, ho, hd, hs, hm, hsz⟩ := hn
  obtain ⟨c, d, dt, sl⟩ := o
  subst hd
  have hany : es.any (·.refKey) = false := by
    rw [Array.any_eq_false']; intro e he; obtain ⟨n, t, h⟩ := hs e he; simp [DictEntry.refKey, h]
  unfold nsSet
  refine wpAny_bind (wpAny_bind (wpAny_askSetting (wpAny_pure (wpAny_bind (wpAny_mkText (wpAny_bind (wpAny_loadPart (s := { s with toks := s.toks + 1 }) ho ?_)))))))
  dsimp only
  rw [aRefKeyMayBeTheName_at, hany, Bool.and_false]
  refine wpAny_updatePart (s := { s with toks := s.toks + 1 }) ho ?_
  cases hi : es.findIdx? (·.key.isStr name) with
  | some i =>
    refine h _ k (.inl rfl) ⟨_, _, ep, Heap.get?_update_self _ ho (by simp only [Obj.putName_eq, Obj.putNameByArray, hi]; rfl), by simp only [Obj.putName_eq, Obj.putNameByArray, hi]; rfl, hs.modify _ _, fun x => ?_, by simpa using hsz⟩ (Heap.SameBut.update ..)
    show _ = if x = name then some v else m x
    rw [← hm]; exact findBy_modify (fun n v => v.isStr n) Value.isStr_inj es name x v i hi
  | none =>
    have hmn : m name = none := by
      rw [← hm]
      unfold nsFind findBy
      have : es.find? (fun e => e.key.isStr name) = none := by
        rw [Array.find?_eq_none]; intro e he
        simpa using (Array.findIdx?_eq_none_iff.mp hi) e he
      rw [this]; rfl
    refine h _ (k + 1) (.inr ⟨rfl, hmn⟩) ⟨_, _, ep + 1, Heap.get?_update_self _ ho (by simp only [Obj.putName_eq, Obj.putNameByArray, hi]; rfl), by simp only [Obj.putName_eq, Obj.putNameByArray, hi]; rfl, hs.push _ _ _ _, fun x => ?_, by simpa using hsz⟩ (Heap.SameBut.update ..)
    show _ = if x = name then some v else m x
    rw [← hm]
    exact findBy_push (fun n v => v.isStr n) es name x _ _ v (fun y => by
      show (name == y) = decide (y = name)
      rw [Bool.eq_iff_iff, beq_iff_eq, decide_eq_true_iff]; exact ⟨Eq.symm, Eq.symm⟩) hi
theorem set_attr {k : Nat} {v : Value} {Q : Unit → Shared → Prop} (X : K.In s.heap) (P : PlainCls K C) (hx : s.heap.get? x = some (instObj C dx)) (hn : NsB s.heap dx m k) (hk : k ≤ 1000) (hc : ownName K C name = true)
    (h : ∀ h' k', (k' = k ∨ (k' = k + 1 ∧ m name = none)) → NsB h' dx (fun y => if y = name then some v else m y) k' → Heap.SameBut dx s.heap h' → ∀ tk, Q () { s with heap := h', toks := tk }) : wpAny (model prog w) A (setAttr (.ref x) name v) Q E s := by
  obtain ⟨o, I, hl⟩ := inst_at hx hn.ns
  obtain ⟨cd, hcd, hd⟩ := P.cd
  refine set_plain X I P.sa (osa_open (r := none) (s := { s with toks := s.toks + 1 }) X I P.over (by unfold takerIn; rw [show findIn K (.ref C) name = some none from beq_iff_eq.mp hc]; rfl) fun b => ?_)
  dsimp only
  refine wpAny_bind (wpAny_pure (wpAny_bind (wpAny_bind (wpAny_loadPart (s := { s with toks := s.toks + 1 }) hx (wpAny_bind (looks_clsIn X hcd _ _ _ _ (fun _ _ e => e) ?_))))))
  rw [hd]
  refine wpAny_pure (a := some dx) (wpAny_bind (wpAny_pure (wpAny_bind ?_)))
  refine nsSet_b (s := { s with toks := s.toks + 1 }) hn fun h' k' hk' hn' hs' => ?_
  obtain ⟨o', es', ep', ho', hd', _, _, hsz'⟩ := id hn'
  refine wpAny_bind (wpAny_lookBehind ho' (by rw [hd']; exact pastItsLine_dict (by rw [sizeLine_eq]; omega)) ?_)
  exact wpAny_pure (h h' k' hk' hn' hs' _)
end
end
section
noncomputable def putF (x : Str) (d : D) : Loc → Loc
  | [] => [(x, d)]
  | (y, e) :: r => if y == x then (y, d) :: r else (y, e) :: putF x d r
theorem putF_lookup (x : Str) (d : D) : ∀ (fs : Loc) (y : Str), (putF x d fs).lookup y = if y = x then some d else fs.lookup y
  | [], y => by
    simp only [putF, List.lookup_cons, List.lookup_nil]
    by_cases h : y = x
    · subst h; simp
    · rw [if_neg h, beq_eq_false_iff_ne.mpr h]
  | (z, e) :: r, y => by
    unfold putF
    by_cases hz : (z == x) = true
    · rw [if_pos hz]
      have hz := beq_iff_eq.mp hz
      subst hz
      rw [List.lookup_cons, List.lookup_cons]
      by_cases h : y = z
      · subst h; simp
      · rw [if_neg h, beq_eq_false_iff_ne.mpr h]
    · rw [if_neg hz, List.lookup_cons, List.lookup_cons, putF_lookup x d r y]
      by_cases h : y = z
      · subst h
        simp only [beq_self_eq_true]
        rw [if_neg (fun q => hz (by simp [q]))]
      · rw [beq_eq_false_iff_ne.mpr h]
set_option tactic.hygienic true in
theorem putF_len (x : Str) (d : D) : ∀ (fs : Loc), (putF x d fs).length = if (fs.lookup x).isSome then fs.length else fs.length + 1
  | [] => rfl
  | (z, e) :: r => by
    unfold putF
    by_cases hz : (z == x) = true
    · rw [if_pos hz, List.lookup_cons, show (x == z) = true by rw [beq_iff_eq.mp hz]; exact beq_self_eq_true _]; rfl
    · have hz' : (x == z) = false := by rw [beq_eq_false_iff_ne]; exact fun q => hz (by rw [q]; exact beq_self_eq_true _)
      rw [if_neg hz, List.lookup_cons, hz', List.length_cons, putF_len x d r]
      split <;> rename_i h <;> simp [h]
section
variable {G : Gd} {n : Nat} {env : Env} {ρ : Loc} {ow : Own} {bs : List (List Stmt)} {o : Out}
noncomputable abbrev AttrEq (env : Env) (oe : Expr) (name : Str) (apos : Pos) : Prop := eval (.Attribute oe name apos) env = (do
      let o ← eval oe env
      standAt apos.atName
      let r ← holding [o] (getAttr o name true)
      letTemporaryGo oe o r
      pure r)
theorem ev_attr {oe : Expr} {name : Str} {apos : Pos} {C dx : Addr} {fs : Loc} {d : D} (he : AttrEq env oe name apos) (ho : Ev G n env ρ ow oe (.inst C dx)) (hm : (dx, OO.ns fs) ∈ ow) (hf : fs.lookup name = some d)
    (hp : plainCls G.K C = true) (hc : ownName G.K C name = true) (hd : handedD d = true) : Ev G n env ρ ow (.Attribute oe name apos) d := .mk fun X A s E R F => by
  refine Attribute_any_ (wpAny_mono (ho.go X A s E R F) (fun v s₁ q => ?_) fun _ _ y => y) he
  obtain ⟨q, g⟩ := q
  have F₁ := F.keeps g
  cases q with | inst e f =>
  obtain ⟨m, hn, h1, h2⟩ := (F₁.owns _ hm).1
  obtain ⟨v, hv, r⟩ := h2 name d hf
  exact attr_own (G.X.keeps F₁.base) (PlainCls.of hp) e hn.ns hv hc (handed_of r hd) ⟨r, g.trans (.toks _ _)⟩
theorem ex_setattr {oe e : Expr} {name : Str} {ap pos : Pos} {rest : List Stmt} {C dx : Addr} {fs : Loc} {d : D} {ow' : Own} (hs : swapsWith e (some (.Attribute oe name ap)) pos.line env = pure false) (he : Ev G n env ρ ow e d) (ho : Ev G n env ρ ow oe (.inst C dx))
    (hx : OSet dx (.ns fs) (.ns (putF name d fs)) ow ow') (hp : plainCls G.K C = true) (hc : ownName G.K C name = true) (hl : fs.length ≤ 1000) (h : Ex G n env ρ ow' (rest :: bs) o) :
    Ex G n env ρ ow ((.Assign [.Attribute oe name ap] e pos :: rest) :: bs) o := .mk fun X A s E R B F => by
  refine wpAny_execs_cons (plainObj_wpAny_Assign_Attribute (wpAny_mono (he.go X A s E R F) (fun v s₁ q₁ => ?_) fun _ _ y => y) hs)
  refine wpAny_mono (ho.go X A s₁ E R (F.keeps q₁.2)) (fun ov s₂ q₂ => ?_) fun _ _ y => y
  obtain ⟨q₂, g₂⟩ := q₂
  have F₂ := F.keeps (q₁.2.trans g₂)
  cases q₂ with | inst e f =>
  obtain ⟨m, hn, h1, h2⟩ := (F₂.owns _ hx.mem).1
  refine set_attr (G.X.keeps F₂.base) (PlainCls.of hp) e hn hl hc fun h' k' hk' hn' hs' tk => ?_
  have hdX := (F₂.owns _ hx.mem).2
  have hsame : Same X s₂.heap h' := .of_but hs' (.inl hdX)
  have hlen : k' ≤ (putF name d fs).length := by
    rw [putF_len]
    cases hl' : fs.lookup name with
    | none =>
      have := h1 name hl'
      rcases hk' with rfl | ⟨rfl, _⟩ <;> simp
    | some d' =>
      obtain ⟨v', hv', _⟩ := h2 name d' hl'
      rcases hk' with rfl | ⟨rfl, hno⟩
      · simp
      · rw [hno] at hv'; cases hv'
  have F₃ : Fits G env X ρ ow' { s₂ with heap := h', toks := tk } := F₂.setOwn (tk := tk) hx hs' ⟨_, let ⟨o, es, ep, a, b, c, d, e⟩ := hn'; ⟨o, es, ep, a, b, c, d, Nat.le_trans e hlen⟩, fun y hy => ?_, fun y d' hy => ?_⟩
  · exact h.from R B F₃ (((q₁.2.trans g₂).turn).trans (.but (t := tk) hs' (.inr (.inr (List.mem_map.mpr ⟨_, hx.mem, rfl⟩))))) fun b q => .inl (mut_same hx.keys q)
  · rw [putF_lookup] at hy
    by_cases q : y = name
    · rw [if_pos q] at hy; cases hy
    · rw [if_neg q] at hy
      show (if y = name then _ else _) = _
      rw [if_neg q]; exact h1 y hy
  · rw [putF_lookup] at hy
    by_cases q : y = name
    · rw [if_pos q] at hy
      cases hy
      exact ⟨v, by simp [q], (q₁.1.keeps g₂.heap).mono hsame⟩
    · rw [if_neg q] at hy
      obtain ⟨v', hv', r'⟩ := h2 y d' hy
      exact ⟨v', by simp [q, hv'], r'.mono hsame⟩
theorem ex_setattr_list {oe : Expr} {lp : Pos} {name : Str} {ap pos : Pos} {rest : List Stmt} {C dx : Addr} {fs : Loc} (hs : swapsWith (.List [] lp) (some (.Attribute oe name ap)) pos.line env = pure false)
    (ho : ∀ a, Ev G n env ρ ((a, .list []) :: ow) oe (.inst C dx)) {ow' : Addr → Own}
    (hx : ∀ a, OSet dx (.ns fs) (.ns (putF name (own a) fs)) ((a, .list []) :: ow) (ow' a)) (hp : plainCls G.K C = true) (hc : ownName G.K C name = true) (hl : fs.length ≤ 1000)
    (h : ∀ a, a ∉ o.base → Ex G n env ρ (ow' a) (rest :: bs) o) :
    Ex G n env ρ ow ((.Assign [.Attribute oe name ap] (.List [] lp) pos :: rest) :: bs) o := .mk fun X A s E R B F => by
  have hnone : s.heap.get? s.heap.objs.size = none := none_at (Nat.le_refl _)
  refine wpAny_execs_cons (plainObj_wpAny_Assign_Attribute (List_ (show wpAny _ A (spliced (backTo lp (starEach [] env))) _ E s from spliced_nil (wpAny_newObj_type ?_ (show (0:Nat) ≤ sizeLine from Nat.zero_le _)))) hs)
  have F₁ := F.newOwn (a := s.heap.objs.size) (new := .list []) (h' := s.heap.push { cls := .type "list", dict := none, data := .seq ([] : List Value).toArray }) (tk := s.toks) hnone (fun b o e => Heap.get?_push_of_some _ e) ⟨[], ⟨_, Heap.get?_push_size _ rfl⟩, .nil⟩
  generalize hA : s.heap.objs.size = a at *
  have t₁ : Turn env ow s { s with heap := s.heap.push { cls := .type "list", dict := none, data := .seq ([] : List Value).toArray } } := ⟨⟨_, _, rfl⟩, fun b o p e => Heap.get?_push_of_some _ e⟩
  have mm : ∀ b, Mut env ((a, .list []) :: ow) b → Mut env ow b ∨ s.heap.get? b = none := fun b q => by
    rcases q with q | q | q
    · exact .inl (.inl q)
    · exact .inl (.inr (.inl q))
    · simp only [List.map_cons, List.mem_cons] at q
      rcases q with q | q
      · exact .inr (q ▸ hnone)
      · exact .inl (.inr (.inr q))
  refine wpAny_mono ((ho a).go (a :: X) A _ E R F₁) (fun ov s₂ q₂ => ?_) fun _ _ y => y
  obtain ⟨q₂, g₂⟩ := q₂
  have F₂ := F₁.keeps g₂
  cases q₂ with | inst e f =>
  obtain ⟨m, hn, h1, h2⟩ := (F₂.owns _ (hx a).mem).1
  refine set_attr (G.X.keeps F₂.base) (PlainCls.of hp) e hn hl hc fun h' k' hk' hn' hs' tk => ?_
  have hdX := (F₂.owns _ (hx a).mem).2
  have hsame : Same (a :: X) s₂.heap h' := .of_but hs' (.inl hdX)
  have hlen : k' ≤ (putF name (own a) fs).length := by
    rw [putF_len]
    cases hl' : fs.lookup name with
    | none =>
      have := h1 name hl'
      rcases hk' with rfl | ⟨rfl, _⟩ <;> simp
    | some d' =>
      obtain ⟨v', hv', _⟩ := h2 name d' hl'
      rcases hk' with rfl | ⟨rfl, hno⟩
      · simp
      · rw [hno] at hv'; cases hv'
  have F₃ : Fits G env (a :: X) ρ (ow' a) { s₂ with heap := h', toks := tk } := F₂.setOwn (tk := tk) (hx a) hs' ⟨_, let ⟨o, es, ep, a, b, c, d, e⟩ := hn'; ⟨o, es, ep, a, b, c, d, Nat.le_trans e hlen⟩, fun y hy => ?_, fun y d' hy => ?_⟩
  · refine (h a fun q => ?_).from R (fun b q => List.mem_cons_of_mem _ (B b q)) F₃ (ow := ow) ?_ fun b q => mm b (mut_same (hx a).keys q)
    · obtain ⟨ob, e⟩ := F.live a (B a q); rw [hnone] at e; cases e
    · obtain ⟨⟨h₂, tk₂, e₂⟩, k₂⟩ := g₂
      refine ⟨⟨h', tk, by rw [e₂]⟩, fun b ob p e => (hs'.2 b fun q => ?_).trans (k₂ b ob (Heap.get?_push_of_some _ e))⟩
      have := mm b (by rw [q]; exact .inr (.inr (List.mem_map.mpr ⟨_, (hx a).mem, rfl⟩)))
      rcases this with z | z
      · exact p z
      · rw [z] at e; cases e
  · rw [putF_lookup] at hy
    by_cases q : y = name
    · rw [if_pos q] at hy; cases hy
    · rw [if_neg q] at hy
      show (if y = name then _ else _) = _
      rw [if_neg q]; exact h1 y hy
  · rw [putF_lookup] at hy
    by_cases q : y = name
    · rw [if_pos q] at hy
      cases hy
      exact ⟨.ref a, by simp [q], .raw _⟩
    · rw [if_neg q] at hy
      obtain ⟨v', hv', r'⟩ := h2 y d' hy
      exact ⟨v', by simp [q, hv'], r'.mono hsame⟩
end
end
section
section
variable {G : Gd} {n : Nat} {env : Env} {ρ : Loc} {ow : Own} {bs : List (List Stmt)} {o : Out}
theorem left_back {X X' : List Addr} {c c' r : Own} {s s₁ s₂ : Shared} (F₁ : Fits G env X ρ (c ++ r) s₁) (g : Turn env (c ++ r) s s₁) (old : ∀ b, s₁.heap.get? b = none → s.heap.get? b = none) (L : Left G X X' c c' s₁ s₂) :
    NewX X X' s.heap ∧ Fits G env X' ρ (c' ++ r) s₂ ∧ Turn env (c ++ r) s s₂ ∧ (∀ b, Mut env (c' ++ r) b → Mut env (c ++ r) b ∨ s.heap.get? b = none) := by
  obtain ⟨F₃, t₃, hm⟩ := F₁.leftover L
  exact ⟨⟨L.newX.sub, fun a q => (L.newX.new a q).imp id (old a)⟩, F₃, g.trans t₃, fun b q => (hm b q).imp id (old b)⟩
theorem Grow.old {s s' : Shared} (g : Grow s s') : ∀ b, s'.heap.get? b = none → s.heap.get? b = none := fun b z => by
  cases e : s.heap.get? b with
  | none => rfl
  | some ob => rw [g.heap b ob e] at z; cases z
theorem evG_imeth0 {oe : Expr} {name : Str} {apos pos : Pos} {C dx f : Addr} {fs : Loc} {c r : Own} {R : D → Own → Prop} {pl : Sem Bool} (he : MethEq env oe name apos pos [] pl) (ho : Ev G n env ρ (c ++ r) oe (.inst C dx)) (hm : (dx, OO.ns fs) ∈ c ++ r) (hf : fs.lookup name = none)
    (hp : plainCls G.K C = true) (hmt : methAt G.K C name f = true) (hk : keepIn G.K (.ref f) = true) (h : FnG G n (.ref f) [.inst C dx] c R) :
    EvG G n env ρ (c ++ r) (.Call (.Attribute oe name apos) [] [] pos) fun d ow' => ∃ c', R d c' ∧ ow' = c' ++ r := .mk fun X A s E Rm F => by
  refine MethodCall_ (wpAny_mono (ho.go X A s E Rm F) (fun v s₁ q => ?_) fun _ _ x => x) he
  obtain ⟨q, g⟩ := q
  have F₁ := F.keeps g
  have q' := q
  cases q with | inst ex fx =>
  obtain ⟨m, hn, h1, h2⟩ := (F₁.owns _ hm).1
  refine method_of (G.X.keeps F₁.base) (PlainCls.of hp) ex hn.ns (h1 name hf) hmt ?_
  refine callWith_K0 (G.X.keeps F₁.base) hk ?_
  refine wpAny_mono (h.go X A s₁ E [_] Rm F₁.base F₁.live (.cons q' .nil) F₁.own.left) (fun v s₃ q₃ => ?_) fun _ _ x => x
  obtain ⟨d, c', X', r', rep, L⟩ := q₃
  obtain ⟨a1, a2, a3, a4⟩ := left_back F₁ g.turn g.old L
  exact ⟨d, c' ++ r, X', ⟨c', r', rfl⟩, a1, rep, a2, a3, a4⟩
theorem keeps_fn {M : Model} {f : Addr} {ob : Obj} {fd : FuncData} (hc : ob.cls = .type "function") (hd : ob.data = .func fd) (h : Heap) (e : h.get? f = some ob) : ∃ k, (k = Keeper.frame ∨ k = Keeper.machine ∨ k = Keeper.boundFrame) ∧ Looks M h (keeperOf (.ref f)) k := by
  obtain ⟨c, dd, dt, sl⟩ := ob
  simp only at hc hd
  subst hc hd
  exact ⟨.frame, .inl rfl, (Looks.ld (part := none) e).andThen .now⟩
theorem evG_fattr {oe : Expr} {name : Str} {apos pos : Pos} {e : Expr} {es : List Expr} {C dx : Addr} {fs : Loc} {P : FuncData → Prop} {q : Str} {ds : List D} {c r : Own} {R : D → Own → Prop} {pl : Sem Bool} (he : MethEq env oe name apos pos (e :: es) pl) (ho : Ev G n env ρ (c ++ r) oe (.inst C dx)) (hm : (dx, OO.ns fs) ∈ c ++ r) (hf : fs.lookup name = some (.fn P q))
    (hp : plainCls G.K C = true) (hc : ownName G.K C name = true) (ha : EvAll G n env ρ (c ++ r) (e :: es) ds) (hs : noStar (e :: es) = true) (h : FnGd G n (.fn P q) ds c R) :
    EvG G n env ρ (c ++ r) (.Call (.Attribute oe name apos) (e :: es) [] pos) fun d ow' => ∃ c', R d c' ∧ ow' = c' ++ r := .mk fun X A s E Rm F => by
  refine MethodCall_ (wpAny_mono (ho.go X A s E Rm F) (fun v s₁ q => ?_) fun _ _ x => x) he
  obtain ⟨q, g⟩ := q
  have F₁ := F.keeps g
  cases q with | inst ex fx =>
  obtain ⟨m, hn, h1, h2⟩ := (F₁.owns _ hm).1
  obtain ⟨v, hv, rv⟩ := h2 name _ hf
  refine method_own (G.X.keeps F₁.base) (PlainCls.of hp) ex hn.ns hv hc (handed_of rv rfl) ?_
  have g₁ : Grow s₁ { s₁ with toks := s₁.toks + 1 } := .toks _ _
  have F₁' := F₁.keeps g₁
  have rv₁ := rv
  cases rv with | @fn fa fo ffd e1 e2 e3 e4 e5 e6 =>
  have hsp : wpAny (model G.prog G.w) A (spliced (backTo pos (starEach (e :: es) env))) (fun vs s₂ => s₂.heap.get? fa = some fo ∧ wpAny (model G.prog G.w) A (call (.ref fa) ([] ++ vs)) (fun v s' => ∃ d ow' X', (∃ c', R d c' ∧ ow' = c' ++ r) ∧ NewX X X' s.heap ∧ Rep X' s'.heap v d ∧ Fits G env X' ρ ow' s' ∧ Turn env (c ++ r) s s' ∧ (∀ b, Mut env ow' b → Mut env (c ++ r) b ∨ s.heap.get? b = none)) E s₂) E { s₁ with toks := s₁.toks + 1 } := by
    refine wpAny_mono (ha.go pos X A _ E Rm F₁') (fun vs s₂ q₂ => ⟨q₂.2.heap _ _ e1, ?_⟩) fun _ _ x => x
    have F₂ := F₁'.keeps q₂.2
    have gg := (g.trans g₁).trans q₂.2
    refine wpAny_mono (h.go X A s₂ E _ vs Rm F₂.base F₂.live (rv₁.keeps (g₁.trans q₂.2).heap) q₂.1 F₂.own.left) (fun v s₃ q₃ => ?_) fun _ _ x => x
    obtain ⟨d, c', X', r', rep, L⟩ := q₃
    obtain ⟨a1, a2, a3, a4⟩ := left_back F₂ gg.turn gg.old L
    exact ⟨d, c' ++ r, X', ⟨c', r', rfl⟩, a1, rep, a2, a3, a4⟩
  rw [starEach_cons hs] at hsp ⊢
  exact callWith_of (P := fun h => h.get? fa = some fo) (by show ((false || (backTo pos (starEach es env)).any (·.1)) || false) = false; rw [backTo_any (noStar_tail hs)]; rfl) (fun h e => keeps_fn e2 e3 h e) (evalArgs_plain hsp)
theorem Room.under {n : Nat} {A : Around} (x : Room (n + 1) A) (C : Addr) (vs : List Value) : Room n (A.under (.builtin "type.__call__" ⟨.ref C :: vs, []⟩)) := ⟨x.hd, by have := x.dp; show A.depth + 1 + n < _; omega, by have := x.un; show A.units + (Code.builtin "type.__call__" ⟨.ref C :: vs, []⟩).cUnits + 8 * n < _; show A.units + 1 + 8 * n < _; omega⟩
theorem fnG_make {C fI : Addr} {ds : List D} {R : D → Own → Prop} {RI : Addr → Own → Prop} (hm : makesIn G.K C = true) (hi : findIn G.K (.ref C) "__init__" = some (some (.ref fI))) (hf : typeIn G.K (.ref fI) = some (.type "function"))
    (h : ∀ dx, FnG G n (.ref fI) (.inst C dx :: ds) [(dx, .ns [])] (fun d c' => d = .none ∧ RI dx c')) (hR : ∀ dx c', RI dx c' → R (.inst C dx) c') : FnG G (n + 1) (.ref C) ds [] R := .mk fun X A s E vs Rm hb hX ra ow => by
  have K₁ : G.K.In s.heap := G.X.keeps hb
  obtain ⟨hh, gg, dd, tt, os⟩ := s
  refine make_core (makes_of K₁ hm) (looks_findIn K₁ hi) (fun self => bind_fn K₁ self hf) (.inl rfl) ?_
  have hn0 : hh.get? hh.objs.size = none := none_at (Nat.le_refl _)
  have hn1 : hh.get? (hh.objs.size + 1) = none := none_at (Nat.le_succ _)
  have up : ∀ b ob, hh.get? b = some ob → ((hh.push emptyDict).push (instObj C hh.objs.size)).get? b = some ob := fun b ob e => Heap.get?_push_of_some _ (Heap.get?_push_of_some _ e)
  have hinst : ((hh.push emptyDict).push (instObj C hh.objs.size)).get? (hh.objs.size + 1) = some (instObj C hh.objs.size) := by heap_get
  have hdict : ((hh.push emptyDict).push (instObj C hh.objs.size)).get? hh.objs.size = some emptyDict := Heap.get?_push_of_some _ (Heap.get?_push_size _ rfl)
  have nX : ∀ b, hh.get? b = none → b ∉ X := fun b z q => by obtain ⟨ob, e⟩ := hX b q; rw [show (Shared.mk hh gg dd tt os).heap.get? b = hh.get? b from rfl, z] at e; cases e
  have ns0 : NsB ((hh.push emptyDict).push (instObj C hh.objs.size)) hh.objs.size (fun _ => none) 0 := ⟨emptyDict, #[], 0, hdict, rfl, fun _ he => by simp at he, fun _ => rfl, Nat.le_refl _⟩
  have hinst' : Rep (hh.objs.size :: X) ((hh.push emptyDict).push (instObj C hh.objs.size)) (.ref (hh.objs.size + 1)) (.inst C hh.objs.size) := .inst hinst fun q => by
    rcases List.mem_cons.mp q with q | q
    · exact absurd q (Nat.succ_ne_self _)
    · exact nX _ hn1 q
  refine codeAny_mono ((h hh.objs.size).code (hh.objs.size :: X) _ ⟨(hh.push emptyDict).push (instObj C hh.objs.size), gg, dd, tt, os⟩ E (.ref (hh.objs.size + 1) :: vs) (Rm.under C vs) (fun b ob e => up b ob (hb b ob e)) (fun a q => ?_) (.cons hinst' ?_) ⟨fun p q => ?_, by simp, fun b q => ?_⟩) fun r s' z => ?_
  · rcases List.mem_cons.mp q with rfl | q
    · exact ⟨_, hdict⟩
    · obtain ⟨ob, e⟩ := hX a q; exact ⟨ob, up a ob e⟩
  · exact (ra.new (a := hh.objs.size) hn0).keeps up
  · rw [List.mem_singleton.mp q]
    exact ⟨⟨_, ns0, fun _ _ => rfl, fun _ _ e => by cases e⟩, List.mem_cons_self ..⟩
  · simp only [List.map_cons, List.map_nil, List.mem_singleton] at q
    subst q
    cases e : G.H₀.get? hh.objs.size with
    | none => rfl
    | some ob => rw [hb _ _ e] at hn0; cases hn0
  · cases r with
    | error e => exact z
    | ok fl =>
     cases fl with
     | ret v =>
      obtain ⟨d, c', X', ⟨rfl, ri⟩, rep, L⟩ := z
      cases rep
      refine ⟨rfl, .inst C hh.objs.size, c', X', hR _ _ ri, ?_, ⟨⟨fun a q => L.newX.sub a (List.mem_cons_of_mem _ q), fun a q => ?_⟩, L.live, L.owns, ?_, fun b q => ?_⟩⟩
      · have hs : (Same X' ((hh.push emptyDict).push (instObj C hh.objs.size)) s'.heap) := L.keep.sameX fun a q => L.newX.sub a (by
          simp only [List.map_cons, List.map_nil, List.mem_singleton] at q; rw [q]; exact List.mem_cons_self ..)
        exact (hinst'.to L.newX.k).mono hs
      · rcases L.newX.new a q with q | q
        · rcases List.mem_cons.mp q with rfl | q
          · exact .inr hn0
          · exact .inl q
        · right
          cases e : hh.get? a with
          | none => rfl
          | some ob => rw [show (Shared.mk ((hh.push emptyDict).push (instObj C hh.objs.size)) gg dd tt os).heap.get? a = _ from up a ob e] at q; cases q
      · obtain ⟨⟨h2, t2, e2⟩, k2⟩ := L.keep
        refine ⟨⟨h2, t2, e2⟩, fun b ob p e => k2 b ob (fun q => ?_) (up b ob e)⟩
        simp only [List.map_cons, List.map_nil, List.mem_singleton] at q
        rw [show (Shared.mk hh gg dd tt os).heap.get? b = hh.get? b from rfl, q, hn0] at e; cases e
      · right
        rcases L.keys b q with q | q
        · simp only [List.map_cons, List.map_nil, List.mem_singleton] at q
          rw [q]; exact hn0
        · cases e : hh.get? b with
          | none => rfl
          | some ob => rw [show (Shared.mk ((hh.push emptyDict).push (instObj C hh.objs.size)) gg dd tt os).heap.get? b = _ from up b ob e] at q; cases q
     | _ => exact z.elim
end
end
section
open Builtin Builtin.ObjectAttr
noncomputable def bindAt (K : Frag) (C : Addr) (x : Str) (f : Addr) : Bool := methAt K C x f && specialIn K (.ref f) "__get__" == some (some (.builtin "function.__get__")) && takesIn K (.ref f) == some false && !copiedNames.contains x
section
variable {G : Gd} {n : Nat} {env : Env} {ρ : Loc} {ow : Own} {bs : List (List Stmt)} {o : Out}
theorem ev_bmeth {oe : Expr} {name : Str} {apos : Pos} {C dx f : Addr} {fs : Loc} (he : AttrEq env oe name apos) (ho : Ev G n env ρ ow oe (.inst C dx)) (hm : (dx, OO.ns fs) ∈ ow) (hf : fs.lookup name = none)
    (hp : plainCls G.K C = true) (hb : bindAt G.K C name f = true) : Ev G n env ρ ow (.Attribute oe name apos) (.meth f C dx) := .mk fun X A s E R F => by
  refine Attribute_any_ (wpAny_mono (ho.go X A s E R F) (fun v s₁ q => ?_) fun _ _ y => y) he
  obtain ⟨q, g⟩ := q
  have F₁ := F.keeps g
  have q' := q
  cases q with | @inst x e fx =>
  obtain ⟨m, hn, h1, h2⟩ := (F₁.owns _ hm).1
  have P := PlainCls.of hp
  have K₁ := G.X.keeps F₁.base
  obtain ⟨od, I, hl⟩ := inst_at e hn.ns
  obtain ⟨cd, hcd, hd⟩ := P.cd
  unfold bindAt methAt at hb
  simp only [Bool.and_eq_true, beq_iff_eq, Bool.not_eq_true'] at hb
  obtain ⟨⟨⟨⟨b1, b2⟩, b3⟩, b4⟩, b5⟩ := hb
  have hfind : findObj G.K C (some od) name = some (.bind (.builtin "function.__get__") (.ref f)) := by
    unfold findObj
    rw [hcd, Option.bind_some, b1, Option.bind_some]
    dsimp only
    rw [b3, Option.bind_some]
    dsimp only
    rw [b4, Option.bind_some]
    dsimp only
    have : W.ownOf cd (some od) name = some none := by
      unfold W.ownOf
      rw [if_pos hd]; dsimp only
      rw [hl name, h1 name hf]
    rw [this, Option.bind_some]
    dsimp only
    rw [b5, Bool.false_and, if_neg Bool.false_ne_true]
  refine get_bind K₁ I P.ga hfind P.gat (wpAny_call (fn_get (s := { s₁ with toks := s₁.toks + 1 }) K₁ b2 ?_))
  show wpAny _ _ (handedOut (.ref _)) _ _ _
  refine wpAny_of_eq (a := .ref s₁.heap.objs.size) (handedOut_of rfl) ?_
  have hq : s₁.heap.objs.size ∉ X := F₁.live.new
  have up : ∀ b ob, s₁.heap.get? b = some ob → (s₁.heap.push (methodObj (.ref f) (.ref x))).get? b = some ob := fun b ob e => Heap.get?_push_of_some _ e
  refine ⟨.meth (Heap.get?_push_size _ rfl) hq (q'.keeps up), g.trans ?_⟩
  exact ⟨⟨_, _, rfl⟩, up⟩
theorem ex_augattr {oe e : Expr} {name : Str} {tp pos : Pos} {op : Operator} {rest : List Stmt} {C dx : Addr} {fs : Loc} {d₁ d₂ d : D} {ow' : Own} (ho : Ev G n env ρ ow oe (.inst C dx)) (he : Ev G n env ρ ow e d₂) (hi : IncIs op d₁ d₂ d)
    (hx : OSet dx (.ns fs) (.ns (putF name d fs)) ow ow') (hf : fs.lookup name = some d₁) (hp : plainCls G.K C = true) (hc : ownName G.K C name = true) (hd : handedD d₁ = true) (hl : fs.length ≤ 1000) (h : Ex G n env ρ ow' (rest :: bs) o) :
    Ex G n env ρ ow ((.AugAssign (.Attribute oe name tp) op e pos :: rest) :: bs) o := .mk fun X A s E R B F => by
  refine wpAny_execs_cons (wpAny_AugAssign_AttributeAny (wpAny_mono (ho.go X A s E R F) (fun ov s₁ q₁ => ?_) fun _ _ y => y))
  obtain ⟨q₁, g₁⟩ := q₁
  have F₁ := F.keeps g₁
  cases q₁ with | inst ex fx =>
  obtain ⟨m₁, hn₁, _, h2₁⟩ := (F₁.owns _ hx.mem).1
  obtain ⟨v₁, hv₁, r₁⟩ := h2₁ name d₁ hf
  refine attr_own (G.X.keeps F₁.base) (PlainCls.of hp) ex hn₁.ns hv₁ hc (handed_of r₁ hd) ?_
  have g₁' : Grow s₁ { s₁ with toks := s₁.toks + 1 } := .toks _ _
  have F₁' := F₁.keeps g₁'
  refine wpAny_mono (he.go X A _ E R F₁') (fun v₂ s₂ q₂ => ?_) fun _ _ y => y
  have F₂ := F₁'.keeps q₂.2
  refine wpAny_mono (hi.go _ _ X A s₂ E v₁ v₂ R.units F₂.live (r₁.keeps (g₁'.trans q₂.2).heap) q₂.1) (fun v s₃ q₃ => ?_) fun _ _ y => y
  have F₃ := F₂.keeps q₃.2
  have gg := ((g₁.trans g₁').trans q₂.2).trans q₃.2
  have ex₃ := ((g₁'.trans q₂.2).trans q₃.2).heap _ _ ex
  obtain ⟨m, hn, h1, h2⟩ := (F₃.owns _ hx.mem).1
  refine set_attr (G.X.keeps F₃.base) (PlainCls.of hp) ex₃ hn hl hc fun h' k' hk' hn' hs' tk => ?_
  have hdX := (F₃.owns _ hx.mem).2
  have hsame : Same X s₃.heap h' := .of_but hs' (.inl hdX)
  have hlen : k' ≤ (putF name d fs).length := by
    rw [putF_len, hf]
    obtain ⟨v', hv', _⟩ := h2 name d₁ hf
    rcases hk' with rfl | ⟨rfl, hno⟩
    · simp
    · rw [hno] at hv'; cases hv'
  have F₄ : Fits G env X ρ ow' { s₃ with heap := h', toks := tk } := F₃.setOwn (tk := tk) hx hs' ⟨_, let ⟨o, es, ep, a, b, c, d, e⟩ := hn'; ⟨o, es, ep, a, b, c, d, Nat.le_trans e hlen⟩, fun y hy => ?_, fun y d' hy => ?_⟩
  · exact h.from R B F₄ (gg.turn.trans (.but (t := tk) hs' (.inr (.inr (List.mem_map.mpr ⟨_, hx.mem, rfl⟩))))) fun b q => .inl (mut_same hx.keys q)
  · rw [putF_lookup] at hy
    by_cases q : y = name
    · rw [if_pos q] at hy; cases hy
    · rw [if_neg q] at hy
      show (if y = name then _ else _) = _
      rw [if_neg q]; exact h1 y hy
  · rw [putF_lookup] at hy
    by_cases q : y = name
    · rw [if_pos q] at hy
      cases hy
      exact ⟨v, by simp [q], q₃.1.mono hsame⟩
    · rw [if_neg q] at hy
      obtain ⟨v', hv', r'⟩ := h2 y d' hy
      exact ⟨v', by simp [q, hv'], r'.mono hsame⟩
theorem ex_def {name : Str} {params : Arguments} {body : List Stmt} {scope : Scope} {pos : Pos} {rest : List Stmt} {f : Nat → Nat → Option Str} {c P : Addr} {qual : Str} (hk : storable env name = true) (hd0 : params.defaults = []) (hk0 : params.kw_defaults = []) (ha : annTrees params none env = [])
    (hc : env.code = .ref c) (hC : codeHdIn G.K c P = true) (hm : (P, OO.pit f) ∈ ow) (hq : f pos.line pos.col = some qual) (hqn : qualnameIn env name name = qual) (hcl : closOk env.cells scope.names = true)
    (h : Ex G n env ((name, .fn (FnTold qual params (.stmts body) scope (closN env.cells scope.names [])) qual) :: ρ) ow (rest :: bs) o) :
    Ex G n env ρ ow ((.FunctionDef name params body [] none [] scope none name pos :: rest) :: bs) o := .mk fun X A s E R B F => by
  subst hqn
  refine wpAny_execs_cons (nestDef_K hd0 hk0 ha (mk_fn F hc hC hm (fun q e => by rw [hq] at e; exact (Option.some.inj e).symm) (closureFor_is hcl) fun v s₁ F₁ t₁ ⟨fa, fo, e1, e2, e3, e4, e5, e6⟩ => ?_))
  exact store_any hk F₁ (e6 hq) fun h' tk F' t' _ => h.from' R B F' (t₁.trans t')
theorem tst_own {oe : Expr} {a : Addr} {ds : List D} (hp : plainTest oe = true) (ho : Ev G n env ρ ow oe (own a)) (hm : (a, OO.list ds) ∈ ow) (hl : ds.length < 2 ^ 62) : Tst G n env ρ ow oe (!ds.isEmpty) := .mk fun X A s E R F => by
  refine isTrue_plain (wpAny_mono (ho.go X A s E R F) (fun v s' q => ?_) fun _ _ x => x) ?_
  · obtain ⟨q, g⟩ := q
    cases q
    obtain ⟨vs, hL, ra⟩ := ((F.keeps g).owns _ hm).1
    have hlen := ra.length
    refine wpAny_truthy_list hL.isList (by rw [List.size_toArray]; omega) ⟨?_, g.trans (.toks _ _)⟩
    cases ds with
    | nil => have e := len0 hlen; subst e; rfl
    | cons d ds => obtain ⟨v, r, rfl⟩ := List.exists_cons_of_length_eq_add_one hlen; rfl
  · exact plain_eq hp
end
end
section
open Builtin Builtin.List
theorem str_sized : Slot "str" "__len__" "str.__len__" := .of (owner := "str") (n := "__len__") (by rw [typeLookup_type, builtinLookup_eq_fast]; kernel_rfl) (by decide +kernel) (by decide +kernel) (by decide +kernel)
    (by first | exact .inl (by decide +kernel) | exact .inr (by decide +kernel)) (by rw [isSubtype_type]; kernel_rfl)
theorem sub_str_str : isSubtype (.type "str") (.type "str") = pure true := by rw [isSubtype_type]; kernel_rfl
theorem len_split : splitId "str.__len__" = some ("str", "__len__") := by decide +kernel
section
variable {prog : Program} {w : World} {A : Around} {E : Value → Shared → Prop} {s : Shared}
theorem hint_str {l : List Nat} {t : Tok} {Q : Bool → Shared → Prop} (h : Q false s) : wpAny (model prog w) A (listLengthHint (.str (tx l) t)) Q E s := by
  unfold listLengthHint
  refine wpAny_bind (wpAny_specialOf (typeIs_str s _ _) str_sized.lookup ?_)
  dsimp only
  rw [len_split]
  dsimp only
  refine wpAny_bind (wpAny_isInstance (b := true) (typeIs_str s _ _) sub_str_str ?_)
  rw [if_neg (by decide), if_pos (by decide +kernel)]
  refine wpAny_bind (wpAny_typeOf (typeIs_str s _ _) ?_)
  exact wpAny_pure h
theorem extend_turns {I a : Addr} {fp wr : List Addr} {n : Nat} {P : Nat → Value → Prop} {St : Nat → Heap → Prop} (W : Walks prog w A.in1 I fp wr n P St) (ha : a ∉ fp) : ∀ (k i : Nat) (s : Shared) (acc : List Value) (c : Nat) (R : Result → Shared → Prop), n - i = k → i ≤ n → St i s.heap →
    s.heap.get? a = some { cls := .type "list", data := .seq acc.toArray c } → acc.length + k ≤ sizeLine →
    (∀ h' tk vs c', (∀ b o, b ∉ a :: wr → s.heap.get? b = some o → h'.get? b = some o) → h'.get? a = some { cls := .type "list", data := .seq (acc ++ vs).toArray c' } → vs.length = k → (∀ j v, vs[j]? = some v → P (i + j) v) → R (.ok (.ret .none)) { s with heap := h', toks := tk }) →
    codeAny (model prog w) A (.builtin "list.extend.loop" ⟨[.ref a, .ref I, .none], []⟩) R s
  | 0, i, s, acc, c, R, hk, hi, st, hl, hsz, hR => by
    have hin : i = n := by omega
    subst hin
    refine codeAny_builtin PySem.F.entry_extend_loop ?_
    rw [Around.under_plainId PySem.F.plain_extend_loop _]
    show wpAny _ A.in1 (pyNext (.ref I) >>= _) _ _ s
    refine wpAny_bind (W.done s _ _ st fun h' tk hm => ?_)
    have haw : a ∉ wr := fun q => ha (W.sub _ q)
    exact wpAny_pure (hR h' tk [] c (fun b o hb e => hm b o (fun q => hb (List.mem_cons_of_mem _ q)) e) (by rw [List.append_nil]; exact hm a _ haw hl) rfl (fun j v e => by simp at e))
  | k + 1, i, s, acc, c, R, hk, hi, st, hl, hsz, hR => by
    have hlt : i < n := by omega
    have haw : a ∉ wr := fun q => ha (W.sub _ q)
    refine codeAny_builtin PySem.F.entry_extend_loop ?_
    rw [Around.under_plainId PySem.F.plain_extend_loop _]
    show wpAny _ A.in1 (pyNext (.ref I) >>= _) _ _ s
    refine wpAny_bind (W.item i s _ _ hlt st fun v h' tk hP st' hm => ?_)
    have hl' := hm a _ haw hl
    show wpAny _ A.in1 (updateSeq a (·.push v) >>= _) _ _ _
    refine wpAny_bind ?_
    have hup : (h'.update a (Obj.mapSeq (·.push v))).get? a = some { cls := .type "list", data := .seq (acc ++ [v]).toArray (c + 1) } := by
      rw [Heap.get?_update_self _ hl' (by rw [Obj.mapSeq_push_plain]; rfl), Obj.mapSeq_push_plain]; simp
    refine wpAny_updateSeq (s := { s with heap := h', toks := tk }) hl' rfl (wpAny_pure ⟨plainId_quiet PySem.F.plain_extend_loop _, extend_turns W ha k (i + 1) _ (acc ++ [v]) (c + 1) R (by omega) hlt (W.frame _ h' _ st' fun b hb o e => ?_) hup (by rw [List.length_append, List.length_singleton]; omega) fun h'' tk' vs c' hm' hl'' hlen hP' => ?_⟩)
      (by rw [List.size_toArray]; omega) (by show (acc.toArray.push v).size ≤ sizeLine + 1; rw [Array.size_push, List.size_toArray]; omega)
    · exact (Heap.get?_update_other _ _ (fun h : a = b => ha (by rw [h]; exact hb))).trans e
    · refine hR h'' tk' (v :: vs) c' (fun b o hb e => hm' b o hb ?_) (by simpa using hl'') (by simp [hlen]) fun j x e => ?_
      · exact (Heap.get?_update_other _ _ (fun h : a = b => hb (by rw [h]; exact List.mem_cons_self))).trans (hm b o (fun q => hb (List.mem_cons_of_mem _ q)) e)
      · cases j with
        | zero => simp at e; subst e; exact hP
        | succ j => have := hP' j x (by simpa using e); rw [show i + 1 + j = i + (j + 1) by omega] at this; exact this
theorem extend_str {a : Addr} {acc : List Value} {c : Nat} {l : List Nat} {t : Tok} {Q : Value → Shared → Prop} (hh : A.handled = none) (hl : s.heap.get? a = some { cls := .type "list", data := .seq acc.toArray c }) (hsz : acc.length + l.length ≤ sizeLine)
    (h : ∀ h' tk vs c', (∀ b o, b ≠ a → s.heap.get? b = some o → h'.get? b = some o) → h'.get? a = some { cls := .type "list", data := .seq (acc ++ vs).toArray c' } → (∀ X, RepAll X h' vs (signs l)) → Q .none { s with heap := h', toks := tk }) :
    wpAny (model prog w) A (call (.builtin "list.extend") [.ref a, .str (tx l) t]) Q E s := by
  have hT : s.TypeIs (.ref a) "list" := ⟨_, hl, rfl⟩
  refine wpAny_call (codeAny_call_builtin PySem.F.slot_list_extend.plain PySem.F.entry_list_extend (PySem.F.slot_list_extend.check _ _ _ _ _ _ _ _ hT (PySem.F.args_list_extend_2 _ _) ?_))
  show wpAny _ A.in1 (listExtendWith (.ref a) (.str (tx l) t) .none) _ _ s
  unfold listExtendWith
  refine wpAny_bind (wpAny_typeOf (typeIs_str s _ _) ?_)
  have h1 : listSameRef (.ref a) (.str (tx l) t) = false := rfl
  rw [if_neg (by rw [h1]; decide)]
  have hnew : s.heap.get? s.heap.objs.size = none := none_at (Nat.le_refl _)
  have hne : a ≠ s.heap.objs.size := Nat.ne_of_lt (Heap.lt_size hl)
  have fin : ∀ (T : String), Walks prog w A.in1 s.heap.objs.size [s.heap.objs.size] [s.heap.objs.size] (tx l).cps.size (SignAt (tx l)) (fun i h => h.IsStrIter s.heap.objs.size T (tx l) t i) →
      codeAny (model prog w) A (.builtin "list.extend.loop" ⟨[.ref a, .ref s.heap.objs.size, .none], []⟩) (fun r s' => match r with | .ok (.ret v) => Q v s' | .ok _ => False | .error e => E e s')
        { s with heap := s.heap.push { cls := .type T, data := .fields #[.str (tx l) t, .int 0 0] } } := fun T W => by
    refine extend_turns W (by simpa using hne) (tx l).cps.size 0 _ acc c _ (Nat.sub_zero _) (Nat.zero_le _) ⟨_, Heap.get?_push_size _ rfl, rfl, rfl⟩ (Heap.get?_push_of_some _ hl) (by simpa using hsz) fun h' tk vs c' hm hl' hlen hP => ?_
    refine h h' tk vs c' (fun b o hb e => hm b o (fun q => ?_) (Heap.get?_push_of_some _ e)) hl' fun X => ?_
    · rcases List.mem_cons.mp q with q | q
      · exact hb q
      · rw [List.mem_singleton.mp q, hnew] at e; cases e
    · have key : ∀ (m : Nat) (vs : List Value) (k : Nat) (ds : List D), vs.length = m → ds.length = m → (∀ j v, vs[j]? = some v → SignAt (tx l) (k + j) v) → (∀ j d, ds[j]? = some d → ∃ c, l[k + j]? = some c ∧ d = .str [c]) → RepAll X h' vs ds := by
        intro m
        induction m with
        | zero => intro vs k ds h1 h2 _ _; rw [List.length_eq_zero_iff.mp h1, List.length_eq_zero_iff.mp h2]; exact .nil
        | succ m ih =>
          intro vs k ds h1 h2 h3 h4
          cases vs with
          | nil => simp at h1
          | cons v vs =>
            cases ds with
            | nil => simp at h2
            | cons d ds =>
              obtain ⟨c, u, hc, rfl⟩ := h3 0 v rfl
              obtain ⟨c', hc', rfl⟩ := h4 0 d rfl
              have : l[k + 0]? = some c := by simpa using hc
              rw [this] at hc'; cases hc'
              refine .cons (.str [c] u) (ih vs (k + 1) ds (by simpa using h1) (by simpa using h2) (fun j v e => ?_) fun j d e => ?_)
              · have := h3 (j + 1) v (by simpa using e); rwa [show k + (j + 1) = k + 1 + j by omega] at this
              · have := h4 (j + 1) d (by simpa using e); rwa [show k + (j + 1) = k + 1 + j by omega] at this
      refine key _ vs 0 (signs l) hlen (by simp [signs]) (fun j v e => hP j v e) fun j d e => ?_
      simp only [signs, List.getElem?_map] at e
      cases hc : l[j]? with
      | none => rw [hc] at e; cases e
      | some c => rw [hc] at e; cases e; exact ⟨c, by simpa using hc, rfl⟩
  cases hal : (tx l).cps.all (· < 128)
  · refine wpAny_bind (wpAny_pyIter_wide hal ?_)
    refine wpAny_bind (wpAny_holding (hint_str ?_))
    rw [if_neg (by decide +kernel)]
    exact wpAny_pure ⟨plainId_quiet PySem.F.plain_extend_loop _, fin "str_iterator" (Walks.strWide (A := A.in1) hh _ _ _)⟩
  · refine wpAny_bind (wpAny_pyIter_ascii hal ?_)
    refine wpAny_bind (wpAny_holding (hint_str ?_))
    rw [if_neg (by decide +kernel)]
    exact wpAny_pure ⟨plainId_quiet PySem.F.plain_extend_loop _, fin "str_ascii_iterator" (Walks.strAscii (A := A.in1) hh _ _ _)⟩
end
section
variable {G : Gd} {n : Nat} {env : Env} {ρ : Loc} {ow : Own} {bs : List (List Stmt)} {o : Out}
theorem ex_extend_str {oe e : Expr} {apos cpos pos : Pos} {rest : List Stmt} {a : Addr} {ds : List D} {l : List Nat} {ow' : Own} {pl : Sem Bool} (ho : Ev G n env ρ ow oe (own a)) (hx : OSet a (.list ds) (.list (ds ++ signs l)) ow ow') (he : Ev G n env ρ ow e (.str l)) (hs : noStar [e] = true) (hsz : ds.length + l.length ≤ 1000000)
    (hq : MethEq env oe "extend" apos cpos [e] pl) (hi : interactive env = false) (hsw : swapsWith (.Call (.Attribute oe "extend" apos) [e] [] cpos) none pos.line env = pure false)
    (h : Ex G n env ρ ow' (rest :: bs) o) : Ex G n env ρ ow ((.Expr (.Call (.Attribute oe "extend" apos) [e] [] cpos) pos :: rest) :: bs) o := .mk <| fun X A s E R B F => by
  refine wpAny_execs_cons (wpAny_Expr_any (MethodCall_ (wpAny_mono (ho.go X A s E R F) (fun v s₁ q => ?_) fun _ _ x => x) hq) hi hsw)
  obtain ⟨q, g⟩ := q
  cases q
  have F₁ := F.keeps g
  obtain ⟨vs, hL, ra⟩ := (F₁.owns _ hx.mem).1
  refine getMethod_builtin hL.isList.typeIs PySem.F.plainAttrs_list PySem.F.slot_list_extend PySem.F.type_list_extend (fun a e => by cases e; exact hL.noDict) ?_
  refine callWith_method1 (wpAny_mono ((evAll_cons (by intro x p q; subst q; cases hs) he evAll_nil).go cpos X A s₁ E R F₁) (fun ws s₂ q₂ => ?_) fun _ _ x => x) (starEach_cons hs) (backTo_any (noStar_tail hs))
  obtain ⟨q₂, g₂⟩ := q₂
  obtain ⟨_, rfl, r₂⟩ := q₂.one
  cases r₂ with | str l t =>
  have F₂ := F₁.keeps g₂
  obtain ⟨vs, ⟨k, hL⟩, ra⟩ := (F₂.owns _ hx.mem).1
  refine extend_str R.hd hL (by rw [ra.length]; exact small hsz) fun h' tk ws c' hk hl' hr => ?_
  have haX := (F₂.owns _ hx.mem).2
  have hsame : Same X s₂.heap h' := fun b ob hb _ e => hk b ob (fun q => hb (q ▸ haX)) e
  have gb : GrowBut a s₂ { s₂ with heap := h', toks := tk } := ⟨⟨_, _, rfl⟩, hk, fun _ _ => ⟨_, hl'⟩⟩
  have hown : ∀ p ∈ ow', OOIs X h' p.1 p.2 := fun p hp => by
    rcases hx.rest F₂.nd hp with rfl | ⟨h1, h2⟩
    · exact ⟨_, ⟨c', hl'⟩, (ra.mono hsame).append (hr X)⟩
    · exact (F₂.owns p h1).1.at (fun o e => hk _ o h2 e) hsame
  have F₃ : Fits G env X ρ ow' { s₂ with heap := h', toks := tk } := F₂.putOwn hx.keys (fun b ob hb e => hk b ob (fun q => hb (q ▸ List.mem_map.mpr ⟨_, hx.mem, rfl⟩)) e) hown
  refine h.from R B F₃ ((g.trans g₂).turn.trans ⟨⟨_, _, rfl⟩, fun b ob p e => hk b ob (fun q => p (.inr (.inr (List.mem_map.mpr ⟨_, hx.mem, q.symm⟩)))) e⟩) fun b q => .inl (mut_same hx.keys q)
end
end
section
open Builtin
theorem ci_next : Slot "callable_iterator" "__next__" "callable_iterator.__next__" := .of (owner := "callable_iterator") (n := "__next__") (by rw [typeLookup_type, builtinLookup_eq_fast]; kernel_rfl) (by decide +kernel) (by decide +kernel) (by decide +kernel)
    (by first | exact .inl (by decide +kernel) | exact .inr (by decide +kernel)) (by rw [isSubtype_type]; kernel_rfl)
theorem ci_iter : Slot "callable_iterator" "__iter__" "callable_iterator.__iter__" := .of (owner := "callable_iterator") (n := "__iter__") (by rw [typeLookup_type, builtinLookup_eq_fast]; kernel_rfl) (by decide +kernel) (by decide +kernel) (by decide +kernel)
    (by first | exact .inl (by decide +kernel) | exact .inr (by decide +kernel)) (by rw [isSubtype_type]; kernel_rfl)
theorem entry_ci_next : entryFor table "callable_iterator.__next__" = some Builtin.«callable_iterator.__next__» := entryFor_of_tree (by kernel_rfl)
theorem entry_ci_iter : entryFor table "callable_iterator.__iter__" = some Builtin.«dict_keyiterator.__iter__» := entryFor_alias (id' := "dict_keyiterator.__iter__") (by kernel_rfl) rfl (by decide +kernel) (by kernel_rfl)
theorem args_ci_next (a : Value) : argsOk "callable_iterator.__next__" ⟨[a], []⟩ := by unfold argsOk; kernel_rfl
theorem args_ci_iter (a : Value) : argsOk "callable_iterator.__iter__" ⟨[a], []⟩ := by unfold argsOk; kernel_rfl
theorem entry_iter : entryFor table "iter" = some Builtin.«iter» := entryFor_of_tree (by kernel_rfl)
theorem kind_iter : builtinKind "iter" = none := by decide +kernel
theorem plain_iter : plainId "iter" = true := by decide +kernel
theorem args_iter2 (a b : Value) : argsOk "iter" ⟨[a, b], []⟩ := by unfold argsOk; kernel_rfl
theorem meth_has_call : typeLookup (.type "method") "__call__" = pure (some (.builtin "method.__call__")) := by rw [typeLookup_type, builtinLookup_eq_fast]; kernel_rfl
theorem borrowed_eq (f : Value) (pos : List Value) : callBorrowed f pos = (call f pos).keep [borrowed] := by
  unfold callBorrowed call runValue run
  show Sem.call _ _ _ _ _ = Sem.call _ _ _ _ _
  congr 1
  funext r
  cases r with
  | error e => rfl
  | ok fl => cases fl <;> rfl
noncomputable abbrev ciObj (vs : Array Value) : Obj := { cls := .type "callable_iterator", data := .fields vs }
section
variable {prog : Program} {w : World} {A : Around} {E : Value → Shared → Prop} {s : Shared} {q mo f x : Addr}
theorem borrows {A : Around} {E : Value → Shared → Prop} {s : Shared} {fo : Obj} {fd : FuncData} {Q : Bool → Shared → Prop} (hmo : s.heap.get? mo = some (methodObj (.ref f) (.ref x))) (hf : s.heap.get? f = some fo) (hfd : fo.data = .func fd) (h : Q true s) : wpAny (model prog w) A (borrowsExactly (.ref mo)) Q E s := by
  unfold borrowsExactly
  refine wpAny_bind (wpAny_load hmo ?_)
  show wpAny _ _ ((load f >>= _) : Sem Bool) _ _ _
  refine wpAny_bind (wpAny_load hf ?_)
  rw [hfd]
  exact wpAny_pure h
theorem iter_self {vs : Array Value} {Q : Value → Shared → Prop} (hq : s.heap.get? q = some (ciObj vs)) (h : Q (.ref q) s) : wpAny (model prog w) A (pyIter (.ref q)) Q E s := by
  have hT : s.TypeIs (.ref q) "callable_iterator" := ⟨_, hq, rfl⟩
  refine wpAny_pyIter_slot hT ci_iter (wpAny_call_entry ci_iter hT entry_ci_iter ?_ (args_ci_iter _))
  show wpAny _ _ (ret (.ref q)) _ _ s
  exact wpAny_pure ⟨_, rfl, "callable_iterator", _, hT, ci_next.lookup, h⟩
theorem raise_stop {Q : Option Value → Shared → Prop} (hh : A.handled = none) (h : ∀ h' , (∀ b o, s.heap.get? b = some o → h'.get? b = some o) → Q none { s with heap := h' }) {α : Type} {Q' : α → Shared → Prop} :
    wpAny (model prog w) A.in1 (newExc (.type "StopIteration") [] >>= fun e => (raiseNew e : Sem α)) Q' (fun e s' => wpAny (model prog w) A (do if ← isInstance e (.type "StopIteration") then pure none else throw e) Q E s') s := by
  refine wpAny_bind ?_
  simp only [newExc, newTuple]
  refine wpAny_bind (wpAny_newObj_type ?_ (by size_fits))
  refine wpAny_bind (m := firstArgMember _ _) (wpAny_of_eq (a := Value.none) (by first | rfl | (simp only [firstArgMember]; rfl)) ?_)
  refine wpAny_newObj_type ?_ (by size_fits)
  simp only [raiseNew]
  refine wpAny_bind (wpAny_handled ?_)
  rw [show A.in1.handled = none from hh]
  refine wpAny_bind (wpAny_pure (wpAny_throw ?_))
  refine wpAny_bind (wpAny_isInstance (T := "StopIteration") (b := true) ⟨_, Heap.get?_push_size _ rfl, rfl⟩ isSubtype_stop ?_)
  exact wpAny_pure (h _ fun b o e => Heap.get?_push_of_some _ (Heap.get?_push_of_some _ e))
theorem next_ended {Q : Option Value → Shared → Prop} (hh : A.handled = none) (hq : s.heap.get? q = some (ciObj #[.none, .none, .bool true])) (h : ∀ h', (∀ b o, s.heap.get? b = some o → h'.get? b = some o) → Q none { s with heap := h' }) : wpAny (model prog w) A (pyNext (.ref q)) Q E s := by
  have hT : s.TypeIs (.ref q) "callable_iterator" := ⟨_, hq, rfl⟩
  unfold pyNext
  refine wpAny_bind (wpAny_attempt (wpAny_callSpecial?_slot (name := Str.ofString "__next__") hT ci_next (wpAny_call_entry ci_next hT entry_ci_next ?_ (args_ci_next _))))
  show wpAny _ _ (field (.ref q) 2 >>= _) _ _ s
  refine wpAny_bind (wpAny_field hq rfl (x := .bool true) rfl ?_)
  rw [if_pos (by decide)]
  refine wpAny_bind (wpAny_rule (wpAny_bind (raise_stop hh h)))
theorem next_turn {sent : List Nat} {t : Tok} {fo : Obj} {fd : FuncData} {Q : Option Value → Shared → Prop} (hh : A.handled = none) (hq : s.heap.get? q = some (ciObj #[.ref mo, .str (tx sent) t, .bool false])) (hmo : s.heap.get? mo = some (methodObj (.ref f) (.ref x))) (hf : s.heap.get? f = some fo) (hfd : fo.data = .func fd)
    (hc : wpAny (model prog w) A.in1 (call (.ref mo) []) (fun v s₁ => s₁.heap.get? q = some (ciObj #[.ref mo, .str (tx sent) t, .bool false]) ∧ s₁.heap.get? mo = some (methodObj (.ref f) (.ref x)) ∧ s₁.heap.get? f = some fo ∧ ∃ l t', v = .str (tx l) t' ∧ (l ≠ sent → Q (some v) s₁) ∧
      (l = sent → ∀ h', h'.get? q = some (ciObj #[.none, .none, .bool true]) → (∀ b o, b ≠ q → s₁.heap.get? b = some o → h'.get? b = some o) → Q none { s₁ with heap := h' })) (fun _ _ => False) s) : wpAny (model prog w) A (pyNext (.ref q)) Q E s := by
  have hT : s.TypeIs (.ref q) "callable_iterator" := ⟨_, hq, rfl⟩
  unfold pyNext
  refine wpAny_bind (wpAny_attempt (wpAny_callSpecial?_slot (name := Str.ofString "__next__") hT ci_next (wpAny_call_entry ci_next hT entry_ci_next ?_ (args_ci_next _))))
  show wpAny _ _ (field (.ref q) 2 >>= _) _ _ s
  refine wpAny_bind (wpAny_field hq rfl (x := .bool false) rfl ?_)
  rw [if_neg (by decide)]
  refine wpAny_bind (wpAny_field hq rfl (x := .ref mo) rfl ?_)
  refine wpAny_bind (wpAny_attempt ?_)
  unfold callOutOfASlot
  refine wpAny_bind (borrows hmo hf hfd ?_)
  rw [if_pos rfl]
  rw [borrowed_eq]
  refine Calls.wpAny_keep (wpAny_mono hc (fun v s₁ h₁ => ?_) fun _ _ z => z.elim)
  obtain ⟨hq₁, hmo₁, hf₁, l, t', rfl, hyes, hno⟩ := h₁
  dsimp only
  refine wpAny_bind (wpAny_field hq₁ rfl (x := .bool false) rfl ?_)
  rw [if_neg (by decide)]
  refine wpAny_bind (wpAny_field hq₁ rfl (x := .str (tx sent) t) rfl ?_)
  refine wpAny_bind (wpAny_holding (wpAny_eqBool_str ?_))
  by_cases hl : l = sent
  · subst hl
    rw [if_neg (by simp)]
    refine wpAny_bind (wpAny_rule ?_)
    refine wpAny_bind ?_
    wp_delta
    refine wpAny_bind (wpAny_field hq₁ rfl (x := .ref mo) rfl ?_)
    refine wpAny_bind ?_
    unfold slotLetsGo
    dsimp only
    refine wpAny_bind (borrows hmo₁ hf₁ hfd ?_)
    rw [if_pos rfl]
    refine wpAny_pure ?_
    refine wpAny_bind (wpAny_setField_rec hq₁ (by simp) fun h₂ e₂ k₂ => ?_)
    refine wpAny_bind (wpAny_setField_rec (s := { s₁ with heap := h₂ }) e₂ (by simp) fun h₃ e₃ k₃ => ?_)
    refine wpAny_setField_rec (s := { s₁ with heap := h₃ }) e₃ (by simp) fun h₄ e₄ k₄ => ?_
    refine raise_stop (s := { s₁ with heap := h₄ }) hh fun h' k => ?_
    exact hno rfl h' (k _ _ e₄) fun b o hb e => k b o ((k₄.2 b hb).trans ((k₃.2 b hb).trans ((k₂.2 b hb).trans e)))
  · have : (!decide (tx sent = tx l)) = true := by
      simp only [Bool.not_eq_true', decide_eq_false_iff_not]
      intro z; injection z with z; exact hl (Array.toList_inj.mpr z).symm
    rw [if_pos this]
    exact wpAny_bind (wpAny_pure (wpAny_pure ⟨_, rfl, wpAny_pure (hyes hl)⟩))
end
end
section
open Builtin
theorem OSet.app {a : Addr} {old new : OO} {r r' : Own} (x : OSet a old new r r') : ∀ c : Own, OSet a old new (c ++ r) (c ++ r')
  | [] => x
  | p :: c => .tail p (x.app c)
noncomputable abbrev MutOk (env : Env) (ow ow' : Own) (h : Heap) : Prop := ∀ b, Mut env ow' b → Mut env ow b ∨ h.get? b = none
structure NextC (G : Gd) (n : Nat) (env : Env) (ρ : Loc) (ow : Own) (q : Addr) (Yes : List Nat → Own → Prop) (No : Own → Prop) : Prop where
  go : ∀ (X : List Addr) (A : Around) (s : Shared) (E : Value → Shared → Prop) (Q : Option Value → Shared → Prop), Room n A → Fits G env X ρ ow s →
    (∀ v l ow' X' s', Yes l ow' → NewX X X' s.heap → Rep X' s'.heap v (.str l) → Fits G env X' ρ ow' s' → Turn env ow s s' → MutOk env ow ow' s.heap → Q (some v) s') →
    (∀ ow' X' s', No ow' → NewX X X' s.heap → Fits G env X' ρ ow' s' → Turn env ow s s' → MutOk env ow ow' s.heap → Q none s') →
    wpAny (model G.prog G.w) A (pyNext (.ref q)) Q E s
section
variable {G : Gd} {n : Nat} {env : Env} {ρ : Loc} {ow : Own} {bs : List (List Stmt)} {o : Out}
set_option tactic.hygienic true in
theorem next_ci {q f C dx : Addr} {sent : List Nat} {c r : Own} {R : D → Own → Prop} (h : FnG G n (.ref f) [.inst C dx] c R) (hR : ∀ d c', R d c' → ∃ l, d = .str l) (hfn : fnIn G.K f = true) :
    NextC G (n + 1) env ρ (c ++ ((q, .citer (.meth f C dx) sent false) :: r)) q (fun l ow' => l ≠ sent ∧ ∃ c', R (.str l) c' ∧ ow' = c' ++ ((q, .citer (.meth f C dx) sent false) :: r)) (fun ow' => ∃ c', R (.str sent) c' ∧ ow' = c' ++ ((q, .citer (.meth f C dx) sent true) :: r)) := .mk fun X A s E Q Rm F hy hn => by
  have hm : (q, OO.citer (.meth f C dx) sent false) ∈ c ++ ((q, .citer (.meth f C dx) sent false) :: r) := List.mem_append_right _ (List.mem_cons_self ..)
  obtain ⟨v0, t, e0, r0⟩ := (F.owns _ hm).1
  have r0 := r0 rfl
  have r0' := r0
  cases r0 with | @meth mo x e1 e2 e3 =>
  obtain ⟨oc, od, fdl, sl, hfl⟩ : ∃ oc od fd sl, G.K.lookup f = some ⟨oc, od, .func fd, sl⟩ := by
    unfold fnIn at hfn
    split at hfn
    · rename_i e; exact ⟨_, _, _, _, e⟩
    · cases hfn
  have hf := G.X.keeps F.base _ _ hfl
  refine next_turn Rm.hd e0 e1 hf rfl ?_
  refine wpAny_mono (wpAny_call (method_call e1 (h.code X A.in1 s (fun _ _ => False) [_] Rm.in1 F.base F.live (.cons e3 .nil) F.own.left))) (fun v s₁ z => ?_) fun _ _ z => z
  obtain ⟨d, c', X', hr, rep, L⟩ := z
  obtain ⟨l, rfl⟩ := hR d c' hr
  obtain ⟨F₁, t₁, hmut⟩ := F.leftover L
  have hnd := F.nd
  rw [List.map_append, List.nodup_append] at hnd
  have hqc : q ∉ keysOf c := fun z => hnd.2.2 q z q (List.mem_cons_self ..) rfl
  have hmoX : ∀ b ob, s.heap.get? b = some ob → look ob → b ∉ X → s₁.heap.get? b = some ob := fun b ob e l hb => L.keep.heap b ob (fun z => by
    obtain ⟨p, hp, rfl⟩ := List.mem_map.mp z
    exact hb (F.owns p (List.mem_append_left _ hp)).2) e
  cases rep with | str l t' =>
  refine ⟨L.keep.heap _ _ hqc e0, hmoX _ _ e1 (.inr (.inl ⟨.inr (.inr (.inr rfl)), _, rfl⟩)) e2, G.X.keeps F₁.base _ _ hfl, l, t', rfl, fun hl => ?_, fun hl h' e' k' => ?_⟩
  · exact hy _ l _ X' s₁ ⟨hl, c', hr, rfl⟩ L.newX (.str l t') F₁ t₁ hmut
  · subst hl
    have hx : OSet q (.citer (.meth f C dx) l false) (.citer (.meth f C dx) l true) (c' ++ ((q, .citer (.meth f C dx) l false) :: r)) (c' ++ ((q, .citer (.meth f C dx) l true) :: r)) := (OSet.head r).app c'
    have hqX : q ∈ X' := (F₁.owns _ hx.mem).2
    have hsame : Same X' s₁.heap h' := fun b ob hb _ e => k' b ob (fun z => hb (z ▸ hqX)) e
    have F₂ : Fits G env X' ρ (c' ++ ((q, .citer (.meth f C dx) l true) :: r)) { s₁ with heap := h' } := F₁.putOwn (tk := s₁.toks) hx.keys (fun b ob hb e => k' b ob (fun z => hb (by rw [z]; exact List.mem_map.mpr ⟨_, hx.mem, rfl⟩)) e) fun p hp => by
      rcases hx.rest F₁.nd hp with rfl | ⟨h1, h2⟩
      · exact ⟨.none, 0, by simpa using e', fun z => by cases z⟩
      · exact (F₁.owns p h1).1.at (fun o e => k' _ o h2 e) hsame
    refine hn _ X' _ ⟨c', hr, rfl⟩ L.newX F₂ (t₁.trans ?_) fun b z => hmut b (mut_same hx.keys z)
    refine ⟨⟨_, _, rfl⟩, fun b ob p e => k' b ob (fun z => p (.inr (.inr ?_))) e⟩
    rw [z]; exact List.mem_map.mpr ⟨_, hm, rfl⟩
theorem next_over {q : Addr} {df : D} {sent : List Nat} {ow : Own} (hm : (q, OO.citer df sent true) ∈ ow) : NextC G n env ρ ow q (fun _ _ => False) (fun ow' => ow' = ow) := .mk fun X A s E Q Rm F hy hn => by
  obtain ⟨v0, t, e0, r0⟩ := (F.owns _ hm).1
  refine next_ended Rm.hd e0 fun h' k => ?_
  have g : Grow s { s with heap := h' } := ⟨⟨h', s.toks, rfl⟩, k⟩
  exact hn ow X _ rfl (.refl ..) (F.keeps g) g.turn fun b z => .inl z
theorem ex_citer {x it : Str} {e₁ e₂ : Expr} {p1 p2 p3 p4 : Pos} {rest : List Stmt} {f C dx : Addr} {sent : List Nat} (hk : storable env x = true) (hsw : swapsWith (.Call (.Name it p2) [e₁, e₂] [] p3) (some (.Name x p1)) p4.line env = pure false) (hs : noStar [e₁, e₂] = true)
    (hf : Ev G n env ρ ow (.Name it p2) (.raw (.builtin "iter"))) (h₁ : Ev G n env ρ ow e₁ (.meth f C dx)) (h₂ : Ev G n env ρ ow e₂ (.str sent))
    (h : ∀ q, q ∉ o.base → Ex G n env ((x, own q) :: ρ) ((q, .citer (.meth f C dx) sent false) :: ow) (rest :: bs) o) :
    Ex G n env ρ ow ((.Assign [.Name x p1] (.Call (.Name it p2) [e₁, e₂] [] p3) p4 :: rest) :: bs) o := .mk fun X A s E R B F => by
  refine wpAny_execs_cons (wpAny_Assign_Name (Call_ (wpAny_mono (hf.go X A s E R F) (fun v s₁ q => ?_) fun _ _ x => x) rfl) hsw)
  obtain ⟨q, g⟩ := q
  cases q
  have F₁ := F.keeps g
  have ha : EvAll G n env ρ ow [e₁, e₂] [.meth f C dx, .str sent] := evAll_cons (by intro x p q; subst q; cases hs) h₁ (evAll_cons (by intro x p q; subst q; cases e₁ <;> cases hs) h₂ evAll_nil)
  refine callWith_builtin1 (wpAny_mono (ha.go p3 X A s₁ E R F₁) (fun vs s₂ q₂ => ?_) fun _ _ x => x) (starEach_cons hs) (backTo_any (noStar_tail hs))
  obtain ⟨q₂, g₂⟩ := q₂
  obtain ⟨mv, sv, rfl, rm, rs⟩ := q₂.two
  have F₂ := F₁.keeps g₂
  have rm' := rm
  cases rm with | @meth mo xo e1 e2 e3 =>
  cases rs with | str l t =>
  refine call_function_tree kind_iter plain_iter entry_iter (args_iter2 _ _) ?_
  unfold Builtin.«iter»
  refine wpAny_bind (wpAny_of_eq (a := [Value.ref _, .str (tx sent) t]) (by rfl) ?_)
  dsimp only
  refine wpAny_bind (wpAny_specialOf (T := "method") ⟨_, e1, rfl⟩ meth_has_call ?_)
  rw [if_neg (by decide)]
  refine wpAny_bind (wpAny_rule (wpAny_bind ?_))
  refine wpAny_newObj_type ?_ (by size_fits)
  refine wpAny_pure ?_
  have hnone : s₂.heap.get? s₂.heap.objs.size = none := none_at (Nat.le_refl _)
  have up : ∀ b ob, s₂.heap.get? b = some ob → (s₂.heap.push (ciObj #[Value.ref mo, .str (tx sent) t, .bool false])).get? b = some ob := fun b ob e => Heap.get?_push_of_some _ e
  have F₃ := F₂.newOwn (a := s₂.heap.objs.size) (new := .citer (.meth f C dx) sent false) (h' := s₂.heap.push (ciObj #[Value.ref mo, .str (tx sent) t, .bool false])) (tk := s₂.toks) hnone up ⟨_, t, Heap.get?_push_size _ rfl, fun _ => (rm'.new hnone).keeps up⟩
  refine store_any hk F₃ (.raw _) fun h' tk F' t' _ => ?_
  refine (h _ fun z => F₂.live.new (B _ z)).from R (fun a q => List.mem_cons_of_mem _ (B a q)) F' (ow := ow) ?_ fun b z => ?_
  · have g3 : Grow s { s₂ with heap := s₂.heap.push (ciObj #[Value.ref mo, .str (tx sent) t, .bool false]) } := (g.trans g₂).trans (.push _ _ s₂.toks)
    obtain ⟨⟨h₂, t₂, e₂⟩, k⟩ := t'
    obtain ⟨⟨h₃, t₃, e₃⟩, k₃⟩ := g3
    refine ⟨⟨h', tk, by injection e₃ with a1 a2 a3 a4 a5; rw [a2, a3, a5]⟩, fun b ob p e => k b ob (fun z => ?_) (k₃ b ob e)⟩
    rcases z with z | z | z
    · exact p (.inl z)
    · exact p (.inr (.inl z))
    · simp only [List.map_cons, List.mem_cons] at z
      rcases z with z | z
      · rw [z] at e
        rw [(g.trans g₂).old _ hnone] at e; cases e
      · exact p (.inr (.inr z))
  · rcases z with z | z | z
    · exact .inl (.inl z)
    · exact .inl (.inr (.inl z))
    · simp only [List.map_cons, List.mem_cons] at z
      rcases z with z | z
      · rw [z]; exact .inr ((g.trans g₂).old _ hnone)
      · exact .inl (.inr (.inr z))
theorem ex_forC {σ : Type} {x : Str} {px : Pos} {e : Expr} {body rest : List Stmt} {pos : Pos} {q : Addr} {df : D} {sent : List Nat} (hk : storable env x = true) (he : Ev G n env ρ ow e (own q)) (hq : ∃ dn, (q, OO.citer df sent dn) ∈ ow) (ρof : σ → Loc) (owof : σ → Own) (I : σ → Prop) (μ : σ → Nat) (b₀ : σ) (h0 : I b₀) (hρ : Sub (ρof b₀) ρ) (how : OSub (owof b₀) ow) (ha : ∀ b, keysOf (owof b) = keysOf ow)
    (Yes : σ → List Nat → Own → Prop) (No : σ → Own → Prop) (hnext : ∀ b, I b → NextC G n env (ρof b) (owof b) q (Yes b) (No b)) (hY : ∀ b l w, I b → Yes b l w → keysOf w = keysOf ow) (hN : ∀ b w, I b → No b w → keysOf w = keysOf ow)
    (turn : ∀ b l w, I b → Yes b l w → Ex G n env ((x, .str l) :: ρof b) w [body] ⟨o.base, fun r w => ∃ b', I b' ∧ μ b' < μ b ∧ Sub (ρof b') r ∧ OSub (owof b') w, fun r w => ∃ ρ' ow', Sub ρ' r ∧ OSub ow' w ∧ keysOf ow' = keysOf ow ∧ Ex G n env ρ' ow' (rest :: bs) o,
      fun r w => ∃ b', I b' ∧ μ b' < μ b ∧ Sub (ρof b') r ∧ OSub (owof b') w, o.ret⟩)
    (hend : ∀ b w, I b → No b w → Ex G n env (ρof b) w (rest :: bs) o) (hfold : ∀ x, foldedSetIterable e env x = pure x := by intro _; rfl) : Ex G n env ρ ow ((.For (.Name x px) e body [] pos :: rest) :: bs) o := .mk fun X A s E R B F => by
  have hnd : ∀ b, ((owof b).map (·.1)).Nodup := fun b => by rw [show (owof b).map (·.1) = ow.map (·.1) from ha b]; exact F.nd
  refine wpAny_execs_cons (wpAny_For (wpAny_mono (he.go X A s _ R F) (fun v s₁ z => ?_) fun _ _ y => y) hfold)
  obtain ⟨z, g⟩ := z
  cases z
  have F₁ := F.keeps g
  obtain ⟨dn, hm⟩ := hq
  obtain ⟨v0, t0, e0, _⟩ := (F₁.owns _ hm).1
  refine iter_self e0 ?_
  refine codeAny_forLoop_any (fun k s' => ∃ b X', I b ∧ k = μ b ∧ (∀ a ∈ o.base, a ∈ X') ∧ Fits G env X' (ρof b) (owof b) s' ∧ Turn env ow s s') ?_ (μ b₀) ⟨b₀, X, h0, rfl, B, F₁.less hρ how (hnd b₀), g.turn⟩
  rintro k s₂ ⟨b, X', hI, rfl, B', F₂, t₂⟩
  refine (hnext b hI).go X' A s₂ _ _ R F₂ (fun v l w X'' s₃ hy nx rep F₃ t₃ hm₃ => ?_) fun w X'' s₃ hn nx F₃ t₃ hm₃ => ?_
  · have t₃' : Turn env ow s₂ s₃ := t₃.more fun b' h => .inl (mut_same (ha b) h)
    refine wpAny_pure (wpAny_assign_Name (store_any hk F₃ rep fun h' tk F₄ t₄ _ => ?_))
    have t₄' : Turn env ow s₃ { s₃ with heap := h', toks := tk } := t₄.more fun b' h => .inl (mut_same (hY b l w hI hy) h)
    refine wpAny_mono ((turn b l w hI hy).go X'' A _ _ R (fun a q => nx.sub a (B' a q)) F₄) (fun f s₅ z => ?_) fun _ _ y => y
    obtain ⟨t₅, z⟩ := z
    have t₅' : Turn env ow { s₃ with heap := h', toks := tk } s₅ := t₅.more fun b' h => .inl (mut_same (hY b l w hI hy) h)
    have tt := ((t₂.trans t₃').trans t₄').trans t₅'
    cases f with
    | next => obtain ⟨X₅, r, w', hX, ⟨b', hI', hμ, hs, hw⟩, F₅⟩ := z; exact ⟨μ b', hμ, b', X₅, hI', rfl, hX, F₅.less hs hw (hnd _), tt⟩
    | cont => obtain ⟨X₅, r, w', hX, ⟨b', hI', hμ, hs, hw⟩, F₅⟩ := z; exact ⟨μ b', hμ, b', X₅, hI', rfl, hX, F₅.less hs hw (hnd _), tt⟩
    | brk =>
      obtain ⟨X₅, r, w', hX, ⟨ρ', ow', hs, hw, hm', hx⟩, F₅⟩ := z
      exact hx.from R hX (F₅.less hs hw (by rw [show ow'.map (·.1) = ow.map (·.1) from hm']; exact F.nd)) tt fun b' h => .inl (mut_same hm' h)
    | ret v => exact seqP_other (by simp) ⟨tt, z⟩
  · have t₃' : Turn env ow s₂ s₃ := t₃.more fun b' h => .inl (mut_same (ha b) h)
    exact wpAny_execs_nil ((hend b w hI hn).from R (fun a q => nx.sub a (B' a q)) F₃ (t₂.trans t₃') fun b' h => .inl (mut_same (hN b w hI hn) h))
end
theorem EvG.own {G : Gd} {n : Nat} {env : Env} {ρ : Loc} {ow : Own} {e : Expr} {R R' : D → Own → Prop} (x : EvG G n env ρ ow e R) (h : ∀ d w, R d w → ∃ w', R' d w' ∧ OSub w' w ∧ ((keysOf w).Nodup → (keysOf w').Nodup)) : EvG G n env ρ ow e R' := ⟨fun X A s E Rm F => wpAny_mono (x.go X A s E Rm F) (fun v s' ⟨d, w, X', r, nx, rep, F', t', hm⟩ => by
  obtain ⟨w', r', hs, hn⟩ := h d w r
  exact ⟨d, w', X', r', nx, rep, F'.less (Sub.refl ρ) hs (hn F'.nd), t', fun b q => hm b (mut_sub hs q)⟩) fun _ _ y => y⟩
theorem Left.own {G : Gd} {X X' : List Addr} {c w w' : Own} {s s' : Shared} (L : Left G X X' c w s s') (hs : OSub w' w) (hn : (keysOf w).Nodup → (keysOf w').Nodup) : Left G X X' c w' s s' := by
  have hk : ∀ b ∈ keysOf w', b ∈ keysOf w := fun b q => by obtain ⟨p, hp, rfl⟩ := List.mem_map.mp q; exact List.mem_map.mpr ⟨p, hs p hp, rfl⟩
  exact ⟨L.newX, L.live, ⟨fun p hp => L.owns.all p (hs p hp), hn L.owns.nd, fun b q => L.owns.apart b (hk b q)⟩, L.keep, fun b q => L.keys b (hk b q)⟩
theorem FnG.own {G : Gd} {n : Nat} {f : Value} {ds : List D} {c : Own} {R R' : D → Own → Prop} (x : FnG G n f ds c R) (h : ∀ d w, R d w → ∃ w', R' d w' ∧ OSub w' w ∧ ((keysOf w).Nodup → (keysOf w').Nodup)) : FnG G n f ds c R' := ⟨fun X A s E vs Rm hb hX ra ho => codeAny_mono (x.code X A s E vs Rm hb hX ra ho) (fun r s' z => by
  rcases r with e | (v | _ | _ | _) <;> first | exact z | exact z.elim | (obtain ⟨d, c', X', r, rep, L⟩ := z; obtain ⟨w', r', hs, hn⟩ := h d c' r; exact ⟨d, w', X', r', rep, L.own hs hn⟩))⟩
end
section
theorem EvG.inn {G : Gd} {n : Nat} {env : Env} {ρ : Loc} {ow ow' : Own} {e : Expr} {R : D → Own → Prop} (hw : OSub ow' ow) (hnd : (keysOf ow).Nodup → (keysOf ow').Nodup) (x : EvG G n env ρ ow' e R) : EvG G n env ρ ow e R := .mk fun X A s E Rm F =>
  wpAny_mono (x.go X A s E Rm (F.less (Sub.refl ρ) hw (hnd F.nd))) (fun v s' ⟨d, w, X', r, nx, rep, F', t', hm⟩ =>
    ⟨d, w, X', r, nx, rep, F', t'.more fun b q => .inl (mut_sub hw q), fun b q => (hm b q).imp (mut_sub hw) id⟩) fun _ _ y => y
section
variable {G : Gd} {n : Nat} {env : Env} {da : Addr} {ρ : Loc}
noncomputable def TurnG (G : Gd) (n : Nat) (env : Env) (da : Addr) (ρ : Loc) (ow cown cown' : Own) (outs : List D) (target elt : Expr) (d d' : D) : Prop :=
  ∃ ρ', (∀ l, Asg G n env ((da, .list l) :: cown) (Mut env ((da, .list []) :: ow)) target d ρ ρ') ∧ Sub ρ ρ' ∧ EvG G n env ρ' ((da, .list outs) :: cown) elt (fun e w => e = d' ∧ w = (da, .list outs) :: cown')
theorem turnG_name {ow cown cown' : Own} {outs : List D} {x : Str} {px : Pos} {elt : Expr} {d d' : D} (hx : env.kindOf x = some .local) (hl : ρ.lookup x = none) (h : EvG G n env ((x, d) :: ρ) ((da, .list outs) :: cown) elt (fun e w => e = d' ∧ w = (da, .list outs) :: cown')) : TurnG G n env da ρ ow cown cown' outs (.Name x px) elt d d' :=
  ⟨(x, d) :: ρ, fun l => asg_name (by unfold storable; rw [hx]; rfl) (.inl rfl) (fun h => (by rw [hx] at h; cases h)), sub_tail hl, h⟩
theorem turnG_pair {ow cown cown' : Own} {outs : List D} {x y : Str} {px py tp : Pos} {k : Nat} {elt : Expr} {d d₁ d₂ d' : D} (hx : env.kindOf x = some .local) (hy : env.kindOf y = some .local) (hl : ρ.lookup x = none) (hl' : ρ.lookup y = none) (hu : UnpIs d d₁ d₂) (h : EvG G n env ((y, d₂) :: (x, d₁) :: ρ) ((da, .list outs) :: cown) elt (fun e w => e = d' ∧ w = (da, .list outs) :: cown')) : TurnG G n env da ρ ow cown cown' outs (.Tuple [.Name x px, .Name y py] k tp) elt d d' :=
  ⟨(y, d₂) :: (x, d₁) :: ρ, fun l => asg_pair (by unfold storable; rw [hx]; rfl) (by unfold storable; rw [hy]; rfl) hu (.inl rfl) (fun h => (by rw [hx] at h; cases h)) (fun h => (by rw [hy] at h; cases h)), sub_tail2 hl hl', h⟩
theorem loopG {elt iter target : Expr} {pos : Pos} {scope : Scope} {ds outs : List D} (ow : Own) (cown : Nat → Own) (hck : ∀ i, keysOf (cown i) = keysOf ow) (hlen : outs.length = ds.length)
    (hE : ∀ i d d', ds[i]? = some d → outs[i]? = some d' → TurnG G n env da ρ ow (cown i) (cown (i + 1)) (outs.take i) target elt d d')
    (X Y : List Addr) (A : Around) (s : Shared) (it : Value) (fp wr : List Addr) (St : List Addr → Nat → Heap → Prop) (R : Result → Shared → Prop) (Rm : Room n A) (F₀ : Fits G env Y ρ ((da, .list []) :: cown 0) s) (hXY : ∀ a ∈ X, a ∈ Y) (hwX : ∀ b ∈ wr, b ∈ Y) (hoX : ∀ b ∈ da :: keysOf ow, b ∈ X) (hL : Live X s.heap)
    (hR : Run G.prog G.w A target it fp wr ds St) (h0 : St Y 0 s.heap) (aw : ∀ b ∈ wr, ¬ Mut env ((da, .list []) :: ow) b ∧ G.H₀.get? b = none ∧ b ∉ X) (afp : ∀ b ∈ fp, ¬ Mut env ((da, .list []) :: ow) b) (hsz : outs.length ≤ sizeLine)
    (hend : ∀ s', Fits G env X ρ ((da, .list outs) :: cown ds.length) s' → (∃ h tk, s' = { s with heap := h, toks := tk }) → (∀ b o, ¬ Mut env ((da, .list []) :: ow) b → b ∉ wr → s.heap.get? b = some o → s'.heap.get? b = some o) → R (.ok .next) s') :
    codeAny (model G.prog G.w) A (.compLoop (.ListComp elt [⟨target, iter, [], 0⟩] scope pos) 0 it (.ref da) env) R s := by
  have hmm : ∀ (l : List D) i b, Mut env ((da, .list l) :: cown i) b → Mut env ((da, .list []) :: ow) b := fun l i b h => mut_same (by
    have := hck i; simp only [keysOf] at this; simp only [List.map_cons, this]) h
  have hmm' : ∀ (l : List D) i b, Mut env ((da, .list []) :: ow) b → Mut env ((da, .list l) :: cown i) b := fun l i b h => mut_same (by
    have := hck i; simp only [keysOf] at this; simp only [List.map_cons, this]) h
  have inX : ∀ (l : List D) i, ∀ p ∈ (da, OO.list l) :: cown i, p.1 ∈ X := fun l i p hp => by
    rcases List.mem_cons.mp hp with h | h
    · rw [h]; exact hoX da (List.mem_cons_self ..)
    · exact hoX _ (List.mem_cons_of_mem _ (by rw [← hck i]; exact List.mem_map.mpr ⟨p, h, rfl⟩))
  refine cp_turns (turn_one elt target iter [] scope pos it (.ref da) env) (fun k s' => ∃ i, i ≤ ds.length ∧ k = ds.length - i ∧ Fits G env Y ρ ((da, .list (outs.take i)) :: cown i) s' ∧ St Y i s'.heap ∧ (∃ h tk, s' = { s with heap := h, toks := tk }) ∧ (∀ b o, ¬ Mut env ((da, .list []) :: ow) b → b ∉ wr → s.heap.get? b = some o → s'.heap.get? b = some o)) ?_ ds.length
    ⟨0, Nat.zero_le _, rfl, by simpa using F₀, h0, ⟨_, _, rfl⟩, fun _ _ _ _ e => e⟩
  rintro k s₂ E' ⟨i, hi, rfl, F₂, st, ⟨h₂, t₂, rfl⟩, hk₂⟩
  rcases Nat.lt_or_ge i ds.length with hlt | hge
  · obtain ⟨d, hd⟩ : ∃ d, ds[i]? = some d := ⟨ds[i], List.getElem?_eq_getElem hlt⟩
    obtain ⟨d', hd'⟩ : ∃ d', outs[i]? = some d' := ⟨outs[i]'(by omega), List.getElem?_eq_getElem (by omega)⟩
    have htake : outs.take (i + 1) = outs.take i ++ [d'] := by rw [List.take_add_one, hd']; rfl
    let I' : Shared → Prop := fun s₃ => ∃ m, m < ds.length - i ∧ ∃ j, j ≤ ds.length ∧ m = ds.length - j ∧ Fits G env Y ρ ((da, .list (outs.take j)) :: cown j) s₃ ∧ St Y j s₃.heap ∧ (∃ h tk, s₃ = { s with heap := h, toks := tk }) ∧ (∀ b o, ¬ Mut env ((da, .list []) :: ow) b → b ∉ wr → s.heap.get? b = some o → s₃.heap.get? b = some o)
    refine wpAny_mono (hR.item Y i d _ (fun v s₃ => wpAny (model G.prog G.w) A (assign target env v) (fun _ s₂' => wpAny (model G.prog G.w) A (testsOf [] env) (fun ok s₃ => if ok = true then ∀ k Q, (∀ s₅, I' s₅ → wpAny (model G.prog G.w) A k Q E' s₅) → wpAny (model G.prog G.w) A (putOut (.ref da) elt env k) Q E' s₃ else I' s₃) E' s₂') E' s₃) E' hwX hd st F₂.live fun v h' tk hv st' hk hl => ?_) (fun r s₃ q => ?_) fun _ _ y => y
    · have F₃ : Fits G env Y ρ ((da, .list (outs.take i)) :: cown i) { s with heap := h', toks := tk } := F₂.wr (tk := tk) hk hwX (fun _ q => q) (fun p hp => (F₂.owns p hp).2) (fun b hb _ => hl b hb) fun b hb => ⟨fun q => (aw b hb).1 (hmm _ _ b q), (aw b hb).2.1⟩
      obtain ⟨ρ', hasg, hsub, hev⟩ := hE i d d' hd hd'
      refine (hasg _).go Y A _ _ _ v Rm F₃ hv fun s₄ e₄ k₄ F₄ => ?_
      have st₄ : St Y (i + 1) s₄.heap := hR.frame _ _ _ _ st' (fun b hb o e => k₄ b o (afp b hb) e) fun b o hb l e => k₄ b o (fun q => F₃.look_away hb e l (hmm' _ _ b q)) e
      refine wpAny_tests_nil ?_
      rw [if_pos rfl]
      intro kk Q hkk
      refine wpAny_bind (wpAny_bind (wpAny_mono (hev.go Y A _ E' Rm F₄) (fun v s₅ q => ?_) fun _ _ y => y))
      obtain ⟨_, _, X', ⟨rfl, rfl⟩, nx, rep, F₅, t₅, hm₅⟩ := q
      have t₅' := t₅.more (ow := (da, .list []) :: ow) fun b q => .inl (hmm _ _ b q)
      have F₅' : Fits G env Y ρ' ((da, .list (outs.take i)) :: cown (i + 1)) s₅ := F₅.subX nx.sub fun p hp => hXY _ (inX _ _ p hp)
      refine wpAny_bind (append_own F₅' (.head _) (rep.sub nx.sub) (by rw [List.length_take]; omega) fun h₆ tk₆ F₆ t₆ k₆ => wpAny_pure (hkk _ ?_))
      have t₆' := t₆.more (ow := (da, .list []) :: ow) fun b q => .inl (hmm _ _ b q)
      refine ⟨ds.length - (i + 1), by omega, i + 1, hlt, rfl, ?_, ?_, ?_, fun b o hb hw e => t₆'.heap b o hb (t₅'.heap b o hb (k₄ b o hb (hk b o hw (hk₂ b o hb hw e))))⟩
      · rw [htake]; exact F₆.sub hsub
      · refine hR.frame _ _ _ _ (hR.frame _ _ _ _ st₄ (fun b hb o e => t₅'.heap b o (afp b hb) e) (t₅.sameX F₄)) (fun b hb o e => t₆'.heap b o (afp b hb) e) (t₆.sameX F₅')
      · obtain ⟨h4, t4, rfl⟩ := e₄
        obtain ⟨⟨h5, t5, rfl⟩, _⟩ := t₅
        exact ⟨_, _, rfl⟩
    · obtain ⟨v, rfl, q⟩ := q
      exact q
  · have : i = ds.length := Nat.le_antisymm hi hge
    subst this
    refine hR.done _ _ _ _ st fun h' tk hk => ?_
    rw [← hlen, List.take_length, hlen] at F₂
    have F₃ : Fits G env X ρ ((da, .list outs) :: cown ds.length) { s with heap := h', toks := tk } := F₂.wr (tk := tk) hk hwX hXY (inX _ _) (fun b hb hbX => absurd hbX (aw b hb).2.2) fun b hb => ⟨fun q => (aw b hb).1 (hmm _ _ b q), (aw b hb).2.1⟩
    exact hend _ F₃ ⟨h', tk, rfl⟩ fun b o hb hw e => hk b o hw (hk₂ b o hb hw e)
end
section
variable {G : Gd} {n : Nat} {env : Env} {X : List Addr} {ρ : Loc} {ow : Own} {s : Shared}
theorem Fits.compG (F : Fits G env X ρ ow s) {scope : Scope} {ρc : Loc} {D C : Addr} {s' : Shared} (g : Grow s s') (hf : FSub scope env ρc ρ) (hkind : scope.kind = .function) (hD : s.heap.get? D = none) (hC : s.heap.get? C = none) (hDC : D ≠ C) (hl : PL s'.heap D []) {m : Str → Option Value} (hn : s'.heap.Ns C m) :
    Fits G (cenvOf scope env C) (D :: X) ρc ((D, .list []) :: ow) s' := by
  have Fc := F.comp g hf hkind hD hC hDC hl hn
  have F' := F.more (wr := [D]) g fun b hb => by rw [List.mem_singleton.mp hb]; obtain ⟨k, e⟩ := hl; exact ⟨hD, _, e⟩
  have hcl : ∀ x c, (closN env.cells scope.names []).lookup x = some c → env.cells.lookup x = some c := fun x c e => closN_get (fun _ _ h => by cases h) x c e
  have hown : ∀ b ∈ keysOf ow, ∃ o, s.heap.get? b = some o := fun b q => by obtain ⟨p, hp, rfl⟩ := List.mem_map.mp q; exact own_there (F.owns p hp).1
  refine ⟨Fc.base, Fc.fn, Fc.gl, Fc.bl, Fc.ns, Fc.vars, fun p hp => ?_, ?_, Fc.live, fun b o e q => ?_, Fc.inj, Fc.cel, fun p hp => ?_⟩
  · rcases List.mem_cons.mp hp with q | q
    · rw [q]; exact Fc.owns _ (List.mem_singleton.mpr rfl)
    · exact F'.owns p q
  · rw [List.map_cons, List.nodup_cons]
    refine ⟨fun q => ?_, F.nd⟩
    obtain ⟨o, e⟩ := hown D q
    rw [hD] at e; cases e
  · rcases q with q | q | q
    · exact Fc.apart b o e (.inl q)
    · exact Fc.apart b o e (.inr (.inl q))
    · rcases List.mem_cons.mp q with q | q
      · exact Fc.apart b o e (.inr (.inr (by rw [q]; exact List.mem_singleton.mpr rfl)))
      · exact F.apart b o e (.inr (.inr q))
  · rcases List.mem_cons.mp hp with q | q
    · rw [q]; exact Fc.sep _ (List.mem_singleton.mpr rfl)
    · refine ⟨fun z => ?_, fun n c hc => (F.sep p q).2 n c (hcl n c hc)⟩
      obtain ⟨o, e⟩ := hown p.1 (List.mem_map.mpr ⟨p, q, rfl⟩)
      rw [show p.1 = C from z, hC] at e; cases e
theorem comp_G {A : Around} {E : Value → Shared → Prop} {ρc : Loc} {target iter elt : Expr} {scope : Scope} {pos p : Pos} {ds outs : List D} {use : Option (Value → Sem Unit)} {Q : Value → Shared → Prop} (cown : Nat → Own) (R : Room n A) (F : Fits G env X ρ ow s)
    (hs : Src G n env ρ ow target iter ds) (hfold : ∀ x, foldedSetIterable iter env x = pure x) (hcl : closOk env.cells scope.names = true) (hkind : scope.kind = .function) (hnames : ∀ x ∈ scope.names, x.2 = .local → scope.names.lookup x.1 = some .local) (hcell : ∀ y ∈ scope.names, y.2 ≠ .cell)
    (hf : FSub scope env ρc ρ) (hcov : ∀ y c, (closN env.cells scope.names []).lookup y = some c → ∃ d, ρc.lookup y = some d) (hc0 : cown 0 = ow) (hck : ∀ i, keysOf (cown i) = keysOf ow) (hlen : outs.length = ds.length)
    (hE : ∀ C D i d d', ds[i]? = some d → outs[i]? = some d' → TurnG G n (cenvOf scope env C) D ρc ow (cown i) (cown (i + 1)) (outs.take i) target elt d d') (hsz : outs.length ≤ sizeLine)
    (h : ∀ D C s' m, Fits G env X ρ (cown ds.length) s' → Turn env ow s s' → Rep X s'.heap (.ref D) (.list outs) → s.heap.get? C = none → s'.heap.Ns C m → compPost (model G.prog G.w) A E use Q (.ref D) C (.ok .next) s') :
    wpAny (model G.prog G.w) A (comprehension (.ListComp elt [⟨target, iter, [], 0⟩] scope pos) scope env p (newList []) false (eval iter env) use) Q E s := by
  refine wpAny_comprehension_free rfl hfold (closureFor_is hcl) hkind hnames (hs.go X A s _ E R F fun it fp wr St s₂ hR h0 g hw hf' => ?_)
  refine wpAny_newObj_type (wpAny_newFunctionEnv hcell (by intro y hy; simp at hy) (fun h₁ hns₁ hsb₁ => ?_) hkind)
  dsimp only at hns₁ hsb₁ ⊢
  generalize hH2 : s₂.heap.push { cls := .type "list", dict := none, data := .seq ([] : List Value).toArray } = H2 at hns₁ hsb₁ ⊢
  have hC : H2.objs.size = s₂.heap.objs.size + 1 := by rw [← hH2, Heap.size_push]
  have hDC : s₂.heap.objs.size ≠ H2.objs.size := by rw [hC]; exact Nat.ne_of_lt (Nat.lt_succ_self _)
  have old : ∀ b o, s₂.heap.get? b = some o → h₁.get? b = some o := fun b o e => hsb₁.extBut b o (by rw [hC]; exact Nat.ne_of_lt (Nat.lt_succ_of_lt (Heap.lt_size e))) (Heap.get?_push_of_some _ (hH2 ▸ Heap.get?_push_of_some _ e))
  have hacc : PL h₁ s₂.heap.objs.size [] := ⟨_, hsb₁.extBut _ _ hDC (Heap.get?_push_of_some _ (hH2 ▸ Heap.get?_push_size _ rfl))⟩
  have none2 : ∀ a, s₂.heap.objs.size ≤ a → s₂.heap.get? a = none := fun a ha => by
    cases e : s₂.heap.get? a with
    | none => rfl
    | some o' => exact absurd (Heap.lt_size e) (Nat.not_lt.mpr ha)
  have none0 : ∀ a, s₂.heap.get? a = none → s.heap.get? a = none := fun a ha => by
    cases e : s.heap.get? a with
    | none => rfl
    | some o' => rw [g.heap a o' e] at ha; cases ha
  have hD2 := none2 _ (Nat.le_refl _)
  have hC2 := none2 H2.objs.size (by rw [hC]; exact Nat.le_succ _)
  generalize hD : s₂.heap.objs.size = D at *
  generalize hCC : H2.objs.size = C at *
  have F₂ : Fits G env (wr ++ X) ρ ow s₂ := F.more g hw
  have hclo : ∀ n' b, (closN env.cells scope.names []).lookup n' = some b → env.cells.lookup n' = some b := fun n' b q => closN_get (fun _ _ h => by cases h) n' b q
  have hmut : ∀ b o, s.heap.get? b = some o → ¬ Mut env ow b → ¬ Mut (cenvOf scope env C) ((D, .list []) :: ow) b := fun b o e q z => by
    rcases z with z | ⟨n', z⟩ | z
    · rw [show b = C from z, none0 C hC2] at e; cases e
    · exact q (.inr (.inl ⟨n', hclo n' b z⟩))
    · rcases List.mem_cons.mp z with z | z
      · rw [show b = D from z, none0 D hD2] at e; cases e
      · exact q (.inr (.inr z))
  have key : ∀ s₃ : Shared, s₃ = { s₂ with heap := h₁, toks := s₂.toks + ([] : List (Str × Value)).length } →
      codeAny (model G.prog G.w) A (.compLoop (.ListComp elt [⟨target, iter, [], 0⟩] scope pos) 0 it (.ref D) (cenvOf scope env C)) (compPost (model G.prog G.w) A E use Q (.ref D) C) s₃ := by
    intro s₃ hs₃
    have g₃ : Grow s₂ s₃ := by rw [hs₃]; exact .of old
    have hl₃ : PL s₃.heap D [] := by rw [hs₃]; exact hacc
    have hn₃ : s₃.heap.Ns C (fun x => ([] : List (Str × Value)).reverse.lookup x) := by rw [hs₃]; exact hns₁
    have Fc := F₂.compG g₃ hf hkind hD2 hC2 hDC hl₃ hn₃
    have R' := hR A R.hd
    have st₂ : St (D :: (wr ++ X)) 0 s₂.heap := R'.lift _ _ _ _ h0 hD2
    have st₃ : St (D :: (wr ++ X)) 0 s₃.heap := R'.frame _ _ _ _ st₂ (fun b _ o e => g₃.heap b o e) fun b o _ _ e => g₃.heap b o e
    have awc : ∀ b ∈ wr, ¬ Mut (cenvOf scope env C) ((D, .list []) :: ow) b ∧ G.H₀.get? b = none ∧ b ∉ D :: X := fun b hb => by
      have h1 := F.new_away (hw b hb).1
      obtain ⟨ob, eb⟩ := (hw b hb).2
      have hbD : b ≠ D := fun q => by rw [q, hD2] at eb; cases eb
      have hbC : b ≠ C := fun q => by rw [q, hC2] at eb; cases eb
      refine ⟨fun q => ?_, h1.2, fun q => ?_⟩
      · rcases q with q | ⟨n', q⟩ | q
        · exact hbC q
        · exact h1.1 (.inr (.inl ⟨n', hclo n' b q⟩))
        · rcases List.mem_cons.mp q with q | q
          · exact hbD q
          · exact h1.1 (.inr (.inr q))
      · rcases List.mem_cons.mp q with q | q
        · exact hbD q
        · obtain ⟨o, e⟩ := F.live b q; rw [(hw b hb).1] at e; cases e
    have afp : ∀ b ∈ fp, ¬ Mut (cenvOf scope env C) ((D, .list []) :: ow) b := fun b hb z => by
      rcases hf' b hb with q | ⟨q, ob, eo, l⟩
      · exact (awc b q).1 z
      · have hno := (F.keeps g).look_away q eo l
        rcases z with z | ⟨n', z⟩ | z
        · rw [show b = C from z, hC2] at eo; cases eo
        · exact hno (.inr (.inl ⟨n', hclo n' b z⟩))
        · rcases List.mem_cons.mp z with z | z
          · rw [show b = D from z, hD2] at eo; cases eo
          · exact hno (.inr (.inr z))
    refine loopG (elt := elt) (iter := iter) (pos := pos) (scope := scope) ow cown hck hlen (hE C D) (D :: X) (D :: (wr ++ X)) A s₃ it fp wr St _ R (by rw [hc0]; exact Fc) (fun a q => ?_) (fun b hb => List.mem_cons_of_mem _ (List.mem_append_left _ hb)) (fun b q => ?_) (fun a q => ?_) R' st₃ awc afp hsz fun s₄ F₄ e₄ k₄ => ?_
    · rcases List.mem_cons.mp q with q | q
      · exact q ▸ List.mem_cons_self ..
      · exact List.mem_cons_of_mem _ (List.mem_append_right _ q)
    · rcases List.mem_cons.mp q with q | q
      · exact q ▸ List.mem_cons_self ..
      · obtain ⟨p, hp, rfl⟩ := List.mem_map.mp q
        exact List.mem_cons_of_mem _ (F.owns p hp).2
    · exact Fc.live a (by
        rcases List.mem_cons.mp q with q | q
        · exact q ▸ List.mem_cons_self ..
        · exact List.mem_cons_of_mem _ (List.mem_append_right _ q))
    · have up : ∀ b o, ¬ Mut env ow b → s.heap.get? b = some o → s₄.heap.get? b = some o := fun b o hb e =>
        k₄ b o (hmut b o e hb) (fun q => by rw [(hw b q).1] at e; cases e) (g₃.heap b o (g.heap b o e))
      have tt : Turn env ow s s₄ := by
        obtain ⟨h4, t4, rfl⟩ := e₄
        obtain ⟨⟨h2, t2, rfl⟩, _⟩ := g
        subst hs₃
        exact ⟨⟨h4, t4, rfl⟩, up⟩
      have hDX : D ∉ X := fun q => by obtain ⟨o, e⟩ := F.live D q; rw [none0 _ hD2] at e; cases e
      have hnl : ¬ Mut (cenvOf scope env C) ((D, .list []) :: ow) env.locals := fun q => by
        obtain ⟨m', hm'⟩ := F.ns
        obtain ⟨ol, _, _, eol, _⟩ := id hm'
        rcases q with q | ⟨n', q⟩ | q
        · rw [show env.locals = C from q, none0 C hC2] at eol; cases eol
        · obtain ⟨v, hv⟩ := F.cel n' _ (hclo n' _ q)
          exact ns_ne_cell hm' hv rfl
        · rcases List.mem_cons.mp q with q | q
          · rw [show env.locals = D from q, none0 D hD2] at eol; cases eol
          · obtain ⟨p, hp, e⟩ := List.mem_map.mp q
            exact (F.sep p hp).1 e
      have keepL : ∀ o, s.heap.get? env.locals = some o → s₄.heap.get? env.locals = some o := fun o e => k₄ _ o hnl (fun q => by rw [(hw _ q).1] at e; cases e) (g₃.heap _ o (g.heap _ o e))
      have keepC : ∀ y c, env.cells.lookup y = some c → (closN env.cells scope.names []).lookup y = none → ∀ o, s.heap.get? c = some o → s₄.heap.get? c = some o := fun y c hc hno o e => by
        refine k₄ c o (fun q => ?_) (fun q => by rw [(hw _ q).1] at e; cases e) (g₃.heap _ o (g.heap _ o e))
        rcases q with q | ⟨n', q⟩ | q
        · rw [show c = C from q, none0 C hC2] at e; cases e
        · have := F.inj n' y c (hclo n' c q) hc
          subst this
          rw [show (closN env.cells scope.names []).lookup _ = some c from q] at hno; cases hno
        · rcases List.mem_cons.mp q with q | q
          · rw [show c = D from q, none0 D hD2] at e; cases e
          · obtain ⟨p, hp, e'⟩ := List.mem_map.mp q
            exact (F.sep p hp).2 y c hc e'
      have hsame : Same X s.heap s₄.heap := tt.sameX F
      have Fe : Fits G env X ρ (cown ds.length) s₄ := by
        refine ⟨F₄.base, F.fn, F.gl, F.bl, ?_, fun y d e => ?_, fun p hp => ?_, ?_, fun a ha => F₄.live a (List.mem_cons_of_mem _ ha), fun b o e q => F.apart b o e (mut_same (hck _) q), F.inj, fun y c e => ?_, fun p hp => ?_⟩
        · obtain ⟨m', hm'⟩ := F.ns; exact ⟨m', hm'.at' keepL⟩
        · cases F.vars y d e with
          | loc m v a b z r => exact .loc m v a (b.at' keepL) z (r.mono hsame)
          | cell c v a b e' r =>
            cases hq : (closN env.cells scope.names []).lookup y with
            | none => exact .cell c v a b (let ⟨o, ho, hd⟩ := e'; ⟨o, keepC y c b hq o ho, hd⟩) (r.mono hsame)
            | some c' =>
              have := hclo y c' hq
              rw [b] at this; cases this
              obtain ⟨d', hd'⟩ := hcov y c hq
              have h1 := (hf.get y d' hd').1
              rw [e] at h1; cases h1
              cases F₄.vars y d hd' with
              | loc m v' a' b' z r' =>
                exfalso
                have : (relabel scope env).names.lookup y = some .local := a'
                have hfree : scope.names.lookup y = some .free := by
                  have := (hf.get y d hd').2
                  unfold freeIn at this
                  simp only [Bool.and_eq_true, beq_iff_eq] at this
                  exact this.1
                rcases relabel_free (env := env) hfree with z | z <;> (rw [z] at this; cases this)
              | cell c'' v' a' b' e'' r' =>
                rw [show (closN env.cells scope.names []).lookup y = some c'' from b'] at hq; cases hq
                exact .cell _ v' a b e'' (r'.sub fun a q => List.mem_cons_of_mem _ q)
        · have hk : p.1 ∈ keysOf ow := by rw [← hck ds.length]; exact List.mem_map.mpr ⟨p, hp, rfl⟩
          obtain ⟨p', hp', e'⟩ := List.mem_map.mp hk
          refine ⟨(F₄.owns p (List.mem_cons_of_mem _ hp)).1.subX fun a q => List.mem_cons_of_mem _ q, ?_⟩
          rw [← e']; exact (F.owns p' hp').2
        · have := hck ds.length; unfold keysOf at this; rw [this]; exact F.nd
        · cases hq : (closN env.cells scope.names []).lookup y with
          | none => obtain ⟨v, o, ho, hd⟩ := F.cel y c e; exact ⟨v, o, keepC y c e hq o ho, hd⟩
          | some c' =>
            have := hclo y c' hq
            rw [e] at this; cases this
            exact F₄.cel y c hq
        · have hk : p.1 ∈ keysOf ow := by rw [← hck ds.length]; exact List.mem_map.mpr ⟨p, hp, rfl⟩
          obtain ⟨p', hp', e'⟩ := List.mem_map.mp hk
          have := F.sep p' hp'
          rw [e'] at this; exact this
      obtain ⟨m, hm⟩ := F₄.ns
      obtain ⟨vs, hlD, ra⟩ := (F₄.owns _ (List.mem_cons_self ..)).1
      exact h D C s₄ m Fe tt (.list hlD hDX (ra.sub fun a q => List.mem_cons_of_mem _ q)) (none0 _ hC2) hm
  exact codeAny_compStart_list (key _ rfl) ((hR A R.hd).self (wr ++ X) 0 _ _ _ ((hR A R.hd).frame _ _ _ _ h0 (fun b _ o e => old b o e) fun b o _ _ e => old b o e) (key _ rfl))
theorem ex_compG {y : Str} {py spos : Pos} {target : Expr} {rest : List Stmt} {bs : List (List Stmt)} {o : Out} {ρc : Loc} {iter elt : Expr} {scope : Scope} {pos : Pos} {ds outs : List D} (cown : Nat → Own) (hk : storable env y = true) (hsw : swapsWith (.ListComp elt [⟨target, iter, [], 0⟩] scope pos) (some (.Name y py)) spos.line env = pure true) (hs : Src G n env ρ ow target iter ds) (hfold : ∀ x, foldedSetIterable iter env x = pure x)
    (hcl : closOk env.cells scope.names = true) (hkind : scope.kind = .function) (hnames : ∀ x ∈ scope.names, x.2 = .local → scope.names.lookup x.1 = some .local) (hcell : ∀ y ∈ scope.names, y.2 ≠ .cell)
    (hf : FSub scope env ρc ρ) (hcov : ∀ y c, (closN env.cells scope.names []).lookup y = some c → ∃ d, ρc.lookup y = some d) (hc0 : cown 0 = ow) (hck : ∀ i, keysOf (cown i) = keysOf ow) (hlen : outs.length = ds.length)
    (hE : ∀ C D i d d', ds[i]? = some d → outs[i]? = some d' → TurnG G n (cenvOf scope env C) D ρc ow (cown i) (cown (i + 1)) (outs.take i) target elt d d') (hsz : outs.length ≤ sizeLine)
    (h : Ex G n env ((y, .list outs) :: ρ) (cown ds.length) (rest :: bs) o) :
    Ex G n env ρ ow ((.Assign [.Name y py] (.ListComp elt [⟨target, iter, [], 0⟩] scope pos) spos :: rest) :: bs) o := .mk fun X A s E R B F => by
  refine wpAny_execs_cons ?_
  rw [exec_Assign_Name_used _ _ _ _ hsw]
  refine wpAny_bind (wpAny_standAt (wpAny_bind ?_))
  refine wpAny_bind (wpAny_mono (comp_G (use := some (assign (.Name y py) env)) (Q := fun _ s' => seqP (model G.prog G.w) A env E (rest :: bs) (fun f s₂ => Turn env ow s s₂ ∧ OutIs G env o f s₂) .next s') cown R F hs hfold hcl hkind hnames hcell hf hcov hc0 hck hlen hE hsz fun D C s' m F' g r hC hn => ?_) (fun _ s' hq => wpAny_pure (wpAny_pure hq)) fun _ _ y => y)
  refine wpAny_assign_Name (store_any hk F' r fun h₁ t₁ F₁ T₁ k₁ => ?_)
  have away := F.new_away hC
  have hne : C ≠ env.locals := fun q => away.1 (.inl q)
  have hn₁ : h₁.Ns C m := hn.at' fun o e => k₁ C o hne (fun _ c hc q => away.1 (.inr (.inl ⟨y, q ▸ hc⟩))) e
  refine ⟨m, hn₁, fun h' hs' => ?_⟩
  have hCX : C ∉ X := fun q => by obtain ⟨o, e⟩ := F.live C q; rw [hC] at e; cases e
  have away' : ¬ Mut env (cown ds.length) C := fun q => away.1 (mut_same (hck _) q)
  have F₂ : Fits G env X ((y, .list outs) :: ρ) (cown ds.length) { s' with heap := h', toks := t₁ } := F₁.but (tk := t₁) hs' (ns_look hn₁) away' away.2 hCX
  refine h.from R B F₂ ?_ fun b q => .inl (mut_same (hck _) q)
  have T₁' : Turn env ow s' { s' with heap := h₁, toks := t₁ } := T₁.more fun b q => .inl (mut_same (hck _) q)
  have tt := g.trans T₁'
  obtain ⟨⟨h3, t3, e3⟩, k3⟩ := tt
  obtain ⟨⟨h2, t2, rfl⟩, _⟩ := g
  exact ⟨⟨h', t₁, rfl⟩, fun b o hb e => (hs'.2 b fun q => by rw [q, hC] at e; cases e).trans (k3 b o hb e)⟩
end
end
section
structure ZA (z TI TO i1 i2 : Addr) (fp1 fp2 : List Addr) : Prop where
  TIz : TI ≠ z
  TOz : TO ≠ z
  i1z : i1 ≠ z
  i2z : i2 ≠ z
  TITO : TI ≠ TO
  TIi1 : TI ≠ i1
  TIi2 : TI ≠ i2
  TOi1 : TO ≠ i1
  TOi2 : TO ≠ i2
  i12 : i1 ≠ i2
  f1 : z ∉ fp1 ∧ TO ∉ fp1 ∧ i2 ∉ fp1
  f2 : z ∉ fp2 ∧ TO ∉ fp2 ∧ i1 ∉ fp2
theorem Draws.but {prog : Program} {w : World} {A : Around} {it c : Addr} {fp : List Addr} {n i : Nat} {P : Nat → Value → Prop} {St : Nat → Heap → Prop} (D : Draws prog w A it fp n P St) {h h' : Heap} (st : St i h) (hc : c ∉ fp) (hs : Heap.SameBut c h h') : St i h' :=
  D.frame i h h' st fun b hb o e => hs.extBut b o (fun q => hc (q ▸ hb)) e
section
variable {prog : Program} {w : World} {A : Around} {E : Value → Shared → Prop} {s : Shared}
variable {z TI TO i1 i2 : Addr} {fp1 fp2 : List Addr} {n1 n2 k1 k2 : Nat} {P1 P2 : Nat → Value → Prop} {S1 S2 : Nat → Heap → Prop} {a b : Value}
theorem zipD_item {Q : Value → Shared → Prop} (D₁ : Draws prog w A i1 fp1 n1 P1 S1) (D₂ : Draws prog w A i2 fp2 n2 P2 S2) (Z : ZA z TI TO i1 i2 fp1 fp2)
    (hz : IsZip s.heap z TI TO .none) (hTI : IsPair s.heap TI (.ref i1) (.ref i2)) (hTO : IsPair s.heap TO a b) (h1 : S1 k1 s.heap) (h2 : S2 k2 s.heap) (l1 : k1 < n1) (l2 : k2 < n2)
    (hQ : ∀ h' tk x y, P1 k1 x → P2 k2 y → IsZip h' z TI TO (rawInt s.heap.objs.size) → IsPair h' TO x y → S1 (k1 + 1) h' → S2 (k2 + 1) h' → IsPair h' s.heap.objs.size x y →
      (∀ c o, c ≠ z → c ≠ TO → c ≠ i1 → c ≠ i2 → s.heap.get? c = some o → h'.get? c = some o) → Q (.ref s.heap.objs.size) { s with heap := h', toks := tk }) :
    wpAny (model prog w) A (Builtin.«zip.__next__» ⟨[.ref z], []⟩) (fun fin s' => ∃ v, fin = .done (.ret v) ∧ Q v s') E s := by
  show wpAny _ _ (field (.ref z) 2 >>= _) _ _ _
  refine wpAny_bind (wpAny_field hz rfl (x := .bool false) rfl ?_)
  show wpAny _ _ (field (.ref z) 3 >>= _) _ _ _
  refine wpAny_bind (wpAny_field hz rfl (x := .ref TI) rfl ?_)
  refine wpAny_bind (wpAny_seqItems hTI rfl ?_)
  show wpAny _ _ (Builtin.SmallTypes.ownedTupleIsFree (.ref z) >>= _) _ _ _
  refine wpAny_bind ?_
  unfold Builtin.SmallTypes.ownedTupleIsFree
  refine wpAny_bind (wpAny_field hz rfl (x := .none) rfl (wpAny_pure ?_))
  simp only [if_true]
  refine wpAny_bind (wpAny_rule ?_)
  refine wpAny_bind (wpAny_field hz rfl (x := .ref TO) rfl ?_)
  refine wpAny_bind (wpAny_setField_rec hz (by simp) fun h₁ hz₁ hs₁ => ?_)
  replace hz₁ : IsZip h₁ z TI TO .ellipsis := hz₁
  refine wpAny_bind ?_
  simp only [List.zipIdx_cons, List.zipIdx_nil, List.forIn_cons, List.forIn_nil]
  refine wpAny_bind (wpAny_bind (wpAny_onRaise ?_))
  show wpAny _ _ (Builtin.SmallTypes.nextOf (.ref i1) >>= _) _ _ _
  refine wpAny_bind (D₁.item k1 _ _ _ l1 (Draws.but D₁ h1 Z.f1.1 hs₁) fun x h₂ tk₂ px h1₂ hs₂ => wpAny_pure ?_)
  have hTO₂ : IsPair h₂ TO a b := hs₂.extBut _ _ Z.TOi1 (hs₁.extBut _ _ Z.TOz hTO)
  refine wpAny_bind (wpAny_seqItems hTO₂ rfl ?_)
  refine wpAny_bind (wpAny_updateSeq_pair hTO₂ fun h₃ hTO₃ hs₃ => ?_)
  replace hTO₃ : IsPair h₃ TO x b := hTO₃
  refine wpAny_bind (wpAny_letGo (wpAny_pure ?_))
  refine wpAny_bind (wpAny_bind (wpAny_onRaise ?_))
  show wpAny _ _ (Builtin.SmallTypes.nextOf (.ref i2) >>= _) _ _ _
  refine wpAny_bind (D₂.item k2 _ _ _ l2 (Draws.but D₂ (Draws.but D₂ (Draws.but D₂ h2 Z.f2.1 hs₁) Z.f2.2.2 hs₂) Z.f2.2.1 hs₃) fun y h₄ tk₄ py h2₄ hs₄ => wpAny_pure ?_)
  have hTO₄ : IsPair h₄ TO x b := hs₄.extBut _ _ Z.TOi2 hTO₃
  refine wpAny_bind (wpAny_seqItems hTO₄ rfl ?_)
  refine wpAny_bind (wpAny_updateSeq_pair hTO₄ fun h₅ hTO₅ hs₅ => ?_)
  replace hTO₅ : IsPair h₅ TO x y := hTO₅
  refine wpAny_bind (wpAny_letGo (wpAny_pure (wpAny_pure ?_)))
  refine wpAny_bind (wpAny_seqItems hTO₅ rfl ?_)
  refine wpAny_bind (wpAny_newTuple ?_)
  have hsz : h₅.objs.size = s.heap.objs.size := by rw [hs₅.1, hs₄.1, hs₃.1, hs₂.1, hs₁.1]
  have hz₅ : IsZip h₅ z TI TO .ellipsis := hs₅.extBut _ _ Z.TOz.symm (hs₄.extBut _ _ Z.i2z.symm (hs₃.extBut _ _ Z.TOz.symm (hs₂.extBut _ _ Z.i1z.symm hz₁)))
  have hk₅ : ∀ c o, c ≠ z → c ≠ TO → c ≠ i1 → c ≠ i2 → s.heap.get? c = some o → h₅.get? c = some o := fun c o c1 c2 c3 c4 e =>
    hs₅.extBut _ _ c2 (hs₄.extBut _ _ c4 (hs₃.extBut _ _ c2 (hs₂.extBut _ _ c3 (hs₁.extBut _ _ c1 e))))
  have h1₅ : S1 (k1 + 1) h₅ := Draws.but D₁ (Draws.but D₁ (Draws.but D₁ h1₂ Z.f1.2.1 hs₃) Z.f1.2.2 hs₄) Z.f1.2.1 hs₅
  have h2₅ : S2 (k2 + 1) h₅ := Draws.but D₂ h2₄ Z.f2.2.1 hs₅
  have hzlt : z < h₅.objs.size := Heap.lt_size hz₅
  show wpAny _ _ (Builtin.SmallTypes.ownedTupleHandOut (.ref z) (.ref h₅.objs.size) >>= _) _ _ _
  refine wpAny_bind ?_
  unfold Builtin.SmallTypes.ownedTupleHandOut
  have hz₆ : IsZip (h₅.push { cls := .type "tuple", data := .seq #[x, y] }) z TI TO .ellipsis := Heap.get?_push_of_some _ hz₅
  refine wpAny_bind (wpAny_setField_rec hz₆ (by simp) fun h₇ hz₇ hs₇ => ?_)
  replace hz₇ : IsZip h₇ z TI TO (rawInt h₅.objs.size) := hz₇
  refine wpAny_setField_rec hz₇ (by simp) fun h₈ hz₈ hs₈ => ?_
  replace hz₈ : IsZip h₈ z TI TO (rawInt h₅.objs.size) := hz₈
  have up : ∀ c o, c ≠ z → h₅.get? c = some o → h₈.get? c = some o := fun c o c1 e => hs₈.extBut _ _ c1 (hs₇.extBut _ _ c1 (Heap.get?_push_of_some _ e))
  have hT₈ : IsPair h₈ h₅.objs.size x y := hs₈.extBut _ _ (Nat.ne_of_gt hzlt) (hs₇.extBut _ _ (Nat.ne_of_gt hzlt) (Heap.get?_push_size _ rfl))
  rw [hsz] at hz₈ hT₈
  refine wpAny_pure ⟨_, rfl, ?_⟩
  show Q (.ref h₅.objs.size) _
  rw [hsz]
  exact hQ h₈ _ x y px py hz₈ (up _ _ Z.TOz hTO₅) (D₁.frame _ _ _ h1₅ fun b hb o e => up _ o (fun q => Z.f1.1 (q ▸ hb)) e) (D₂.frame _ _ _ h2₅ fun b hb o e => up _ o (fun q => Z.f2.1 (q ▸ hb)) e) hT₈ fun c o c1 c2 c3 c4 e => up c o c1 (hk₅ c o c1 c2 c3 c4 e)
theorem zipD_end {Q : Fin → Shared → Prop} (D₁ : Draws prog w A i1 fp1 n1 P1 S1) (D₂ : Draws prog w A i2 fp2 n2 P2 S2) (Z : ZA z TI TO i1 i2 fp1 fp2)
    (hz : IsZip s.heap z TI TO .none) (hTI : IsPair s.heap TI (.ref i1) (.ref i2)) (hTO : IsPair s.heap TO a b) (h1 : S1 k1 s.heap) (h2 : S2 k2 s.heap) (l : k1 = n1 ∨ (k1 < n1 ∧ k2 = n2))
    (hE : ∀ h' tk e, (∀ c o, c ≠ z → c ≠ TO → c ≠ i1 → c ≠ i2 → s.heap.get? c = some o → h'.get? c = some o) → (∃ o, h'.get? e = some o ∧ o.cls = .type "StopIteration") → E (.ref e) { s with heap := h', toks := tk }) :
    wpAny (model prog w) A (Builtin.«zip.__next__» ⟨[.ref z], []⟩) Q E s := by
  show wpAny _ _ (field (.ref z) 2 >>= _) _ _ _
  refine wpAny_bind (wpAny_field hz rfl (x := .bool false) rfl ?_)
  show wpAny _ _ (field (.ref z) 3 >>= _) _ _ _
  refine wpAny_bind (wpAny_field hz rfl (x := .ref TI) rfl ?_)
  refine wpAny_bind (wpAny_seqItems hTI rfl ?_)
  show wpAny _ _ (Builtin.SmallTypes.ownedTupleIsFree (.ref z) >>= _) _ _ _
  refine wpAny_bind ?_
  unfold Builtin.SmallTypes.ownedTupleIsFree
  refine wpAny_bind (wpAny_field hz rfl (x := .none) rfl (wpAny_pure ?_))
  simp only [if_true]
  refine wpAny_bind (wpAny_rule ?_)
  refine wpAny_bind (wpAny_field hz rfl (x := .ref TO) rfl ?_)
  refine wpAny_bind (wpAny_setField_rec hz (by simp) fun h₁ hz₁ hs₁ => ?_)
  replace hz₁ : IsZip h₁ z TI TO .ellipsis := hz₁
  refine wpAny_bind ?_
  simp only [List.zipIdx_cons, List.zipIdx_nil, List.forIn_cons, List.forIn_nil]
  refine wpAny_bind (wpAny_bind (wpAny_onRaise ?_))
  show wpAny _ _ (Builtin.SmallTypes.nextOf (.ref i1) >>= _) _ _ _
  rcases l with rfl | ⟨l1, rfl⟩
  · refine wpAny_bind (D₁.done _ _ _ (Draws.but D₁ h1 Z.f1.1 hs₁) fun h₂ e hs₂ he => ?_)
    obtain ⟨oe, hoe, hce⟩ := he
    have hz₂ : IsZip h₂ z TI TO .ellipsis := hs₂ _ _ Z.i1z.symm hz₁
    have hez : e ≠ z := fun x => by subst x; rw [hz₂] at hoe; cases hoe; simp at hce
    refine wpAny_setField_rec hz₂ (by simp) fun h₃ _ hs₃ => hE h₃ _ e (fun c o c1 _ c3 _ x => hs₃.extBut _ _ c1 (hs₂ _ _ c3 (hs₁.extBut _ _ c1 x))) ⟨oe, hs₃.extBut _ _ hez hoe, hce⟩
  · refine wpAny_bind (D₁.item k1 _ _ _ l1 (Draws.but D₁ h1 Z.f1.1 hs₁) fun x h₂ tk₂ px h1₂ hs₂ => wpAny_pure ?_)
    have hTO₂ : IsPair h₂ TO a b := hs₂.extBut _ _ Z.TOi1 (hs₁.extBut _ _ Z.TOz hTO)
    refine wpAny_bind (wpAny_seqItems hTO₂ rfl ?_)
    refine wpAny_bind (wpAny_updateSeq_pair hTO₂ fun h₃ hTO₃ hs₃ => ?_)
    refine wpAny_bind (wpAny_letGo (wpAny_pure ?_))
    refine wpAny_bind (wpAny_bind (wpAny_onRaise ?_))
    show wpAny _ _ (Builtin.SmallTypes.nextOf (.ref i2) >>= _) _ _ _
    refine wpAny_bind (D₂.done _ _ _ (Draws.but D₂ (Draws.but D₂ (Draws.but D₂ h2 Z.f2.1 hs₁) Z.f2.2.2 hs₂) Z.f2.2.1 hs₃) fun h₄ e hs₄ he => ?_)
    obtain ⟨oe, hoe, hce⟩ := he
    have hz₄ : IsZip h₄ z TI TO .ellipsis := hs₄ _ _ Z.i2z.symm (hs₃.extBut _ _ Z.TOz.symm (hs₂.extBut _ _ Z.i1z.symm hz₁))
    have hez : e ≠ z := fun x => by subst x; rw [hz₄] at hoe; cases hoe; simp at hce
    refine wpAny_setField_rec hz₄ (by simp) fun h₅ _ hs₅ => hE h₅ _ e (fun c o c1 c2 c3 c4 x => hs₅.extBut _ _ c1 (hs₄ _ _ c4 (hs₃.extBut _ _ c2 (hs₂.extBut _ _ c3 (hs₁.extBut _ _ c1 x))))) ⟨oe, hs₅.extBut _ _ hez hoe, hce⟩
theorem zipD_walks (z TI TO : Addr) (D₁ : Draws prog w A.in1 i1 fp1 n1 P1 S1) (D₂ : Draws prog w A.in1 i2 fp2 n2 P2 S2) (Z : ZA z TI TO i1 i2 fp1 fp2) :
    WalksT prog w A z (z :: TI :: TO :: i1 :: i2 :: (fp1 ++ fp2)) [z, TO, i1, i2] (min n1 n2) (fun i vals => ∃ x y, P1 i x ∧ P2 i y ∧ vals = #[x, y])
      (fun i h => IsZip h z TI TO .none ∧ IsPair h TI (.ref i1) (.ref i2) ∧ (∃ a b, IsPair h TO a b) ∧ S1 i h ∧ S2 i h)
      (fun i T h => IsZip h z TI TO (rawInt T) ∧ IsPair h TI (.ref i1) (.ref i2) ∧ (∃ a b, IsPair h TO a b) ∧ S1 (i + 1) h ∧ S2 (i + 1) h ∧ T ≠ z ∧ T ≠ TO ∧ T ≠ i1 ∧ T ≠ i2) where
  sub := fun c hc => by simp at hc ⊢; rcases hc with rfl | rfl | rfl | rfl <;> simp
  frame := fun i h h' hst hk => by
    obtain ⟨hz, hTI, ⟨a, b, hTO⟩, h1, h2⟩ := hst
    exact ⟨hk z (by simp) _ hz, hk TI (by simp) _ hTI, ⟨a, b, hk TO (by simp) _ hTO⟩, D₁.frame _ _ _ h1 fun b hb o e => hk b (by simp [hb]) o e, D₂.frame _ _ _ h2 fun b hb o e => hk b (by simp [hb]) o e⟩
  item := fun i s Q E hi hst hQ => by
    obtain ⟨hz, hTI, ⟨a, b, hTO⟩, h1, h2⟩ := hst
    have hT : s.TypeIs (.ref z) "zip" := ⟨_, hz, rfl⟩
    have lt : ∀ {c o}, s.heap.get? c = some o → s.heap.objs.size ≠ c := fun e => Nat.ne_of_gt (Heap.lt_size e)
    unfold pyNext
    refine wpAny_bind (wpAny_attempt (wpAny_callSpecial?_slot (name := Str.ofString "__next__") hT F.slot_zip_next
      (wpAny_call_entry F.slot_zip_next hT F.entry_zip_next
        (zipD_item D₁ D₂ Z hz hTI hTO h1 h2 (Nat.lt_of_lt_of_le hi (Nat.min_le_left ..)) (Nat.lt_of_lt_of_le hi (Nat.min_le_right ..)) fun h' tk x y px py a1 a2 a3 a4 a5 hk => wpAny_pure ?_) (F.args_zip_next_1 _))))
    exact hQ s.heap.objs.size #[x, y] h' tk ⟨_, _, px, py, rfl⟩ (Nat.le_refl _) ⟨_, a5, rfl, _, rfl⟩
      ⟨a1, hk _ _ Z.TIz Z.TITO Z.TIi1 Z.TIi2 hTI, ⟨_, _, a2⟩, a3, a4, lt hz, lt hTO, (by obtain ⟨_, e⟩ := D₁.live _ _ h1; exact lt e), (by obtain ⟨_, e⟩ := D₂.live _ _ h2; exact lt e)⟩
      fun c o hc e => hk c o (fun x => hc (by simp [x])) (fun x => hc (by simp [x])) (fun x => hc (by simp [x])) (fun x => hc (by simp [x])) e
  go := fun elts k pos i T s Q E hm hQ => by
    obtain ⟨hz, hTI, ⟨a, b, hTO⟩, h1, h2, _⟩ := hm
    refine wpAny_letOwnedTupleGo_zip hz fun h' hz' hs' => hQ h' ⟨hz', hs'.extBut _ _ Z.TIz hTI, ⟨a, b, hs'.extBut _ _ Z.TOz hTO⟩, Draws.but D₁ h1 Z.f1.1 hs', Draws.but D₂ h2 Z.f2.1 hs'⟩ fun c o hc e => hs'.extBut _ _ (fun x => hc (by simp [x])) e
  apart := fun i T h hm hT => by
    obtain ⟨_, _, _, _, _, t1, t2, t3, t4⟩ := hm
    simp at hT
    rcases hT with rfl | rfl | rfl | rfl
    · exact t1 rfl
    · exact t2 rfl
    · exact t3 rfl
    · exact t4 rfl
  done := fun s Q E hst hQ => by
    obtain ⟨hz, hTI, ⟨a, b, hTO⟩, h1, h2⟩ := hst
    have hT : s.TypeIs (.ref z) "zip" := ⟨_, hz, rfl⟩
    have hend : min n1 n2 = n1 ∨ (min n1 n2 < n1 ∧ min n1 n2 = n2) := by omega
    unfold pyNext
    refine wpAny_bind (wpAny_attempt (wpAny_callSpecial?_slot (name := Str.ofString "__next__") hT F.slot_zip_next
      (wpAny_call_entry F.slot_zip_next hT F.entry_zip_next (zipD_end D₁ D₂ Z hz hTI hTO h1 h2 hend fun h' tk e hk he => ?_) (F.args_zip_next_1 _))))
    obtain ⟨o, ho, hc⟩ := he
    refine wpAny_bind (wpAny_isInstance (T := "StopIteration") (b := true) ⟨o, ho, hc⟩ isSubtype_stop ?_)
    exact wpAny_pure (hQ _ tk fun c o hc e =>
      hk c o (fun x => hc (by simp [x])) (fun x => hc (by simp [x])) (fun x => hc (by simp [x])) (fun x => hc (by simp [x])) e)
  self := fun i s Q E hst hQ => wpAny_pyIter_zip hst.1 hQ
end
end
section
noncomputable abbrev itL (l : Addr) : Obj := { cls := .type "list_iterator", data := .fields #[.ref l, .int 0 0] }
noncomputable abbrev itS (x : Str) (t : Tok) : Obj := { cls := .type (strIterType x), data := .fields #[.str x t, .int 0 0] }
noncomputable abbrev zp1 (h : Heap) (o1 : Obj) : Heap := h.push o1
noncomputable abbrev zp2 (h : Heap) (o1 o2 : Obj) : Heap := (zp1 h o1).push o2
noncomputable abbrev zp3 (h : Heap) (o1 o2 : Obj) : Heap := (zp2 h o1 o2).push { cls := .type "tuple", data := .seq #[.ref h.objs.size, .ref (zp1 h o1).objs.size] }
noncomputable abbrev zp4 (h : Heap) (o1 o2 : Obj) : Heap := (zp3 h o1 o2).push { cls := .type "tuple", data := .seq #[.none, .none] }
noncomputable abbrev zp5 (h : Heap) (o1 o2 : Obj) : Heap := (zp4 h o1 o2).push { cls := .type "zip", data := .fields #[.none, .bool false, .bool false, .ref (zp2 h o1 o2).objs.size, .ref (zp3 h o1 o2).objs.size] }
set_option maxHeartbeats 2000000 in
theorem meets_zip_ls (l : Addr) (xs : Array Value) (x : Str) (t : Tok) :
    Meets (Builtin.«zip.__new__» ⟨[.type "zip", .ref l, .str x t], []⟩) (fun _ R s => s.heap.IsList l xs ∧ R (.ok (.ret (.ref (zp4 s.heap (itL l) (itS x t)).objs.size))) { s with heap := zp5 s.heap (itL l) (itS x t) }) :=
  .of_wp fun prog w A R s h => by
    obtain ⟨hp, g, d, tk, os⟩ := s; obtain ⟨hl1, h⟩ := h
    have hsub := sub_zip
    have hL1 : Heap.IsList (Shared.heap ⟨hp, g, d, tk, os⟩) l xs := hl1
    wp_walk using wpAny_pyIter_list hL1, wpAny_pyIter_strU
    exact ⟨_, rfl, h⟩
section
variable {prog : Program} {w : World} {A : Around} {E : Value → Shared → Prop} {s : Shared}
structure Zipped (h h' : Heap) (o1 o2 : Obj) : Prop where
  z : IsZip h' (h.objs.size + 4) (h.objs.size + 2) (h.objs.size + 3) .none
  ti : IsPair h' (h.objs.size + 2) (.ref h.objs.size) (.ref (h.objs.size + 1))
  to : IsPair h' (h.objs.size + 3) .none .none
  i1 : h'.get? h.objs.size = some o1
  i2 : h'.get? (h.objs.size + 1) = some o2
  up : ∀ c o, h.get? c = some o → h'.get? c = some o
theorem zipped_is (h : Heap) (o1 o2 : Obj) (f1 : o1.isFreed = false) (f2 : o2.isFreed = false) : Zipped h (zp5 h o1 o2) o1 o2 ∧ (zp4 h o1 o2).objs.size = h.objs.size + 4 := by
  have z1 : (zp1 h o1).objs.size = h.objs.size + 1 := Heap.size_push ..
  have z2 : (zp2 h o1 o2).objs.size = h.objs.size + 2 := by rw [Heap.size_push, z1]
  have z3 : (zp3 h o1 o2).objs.size = h.objs.size + 3 := by rw [Heap.size_push, z2]
  have z4 : (zp4 h o1 o2).objs.size = h.objs.size + 4 := by rw [Heap.size_push, z3]
  have g5 : (zp5 h o1 o2).get? (zp4 h o1 o2).objs.size = some _ := Heap.get?_push_size _ rfl
  have g4 : (zp5 h o1 o2).get? (zp3 h o1 o2).objs.size = some _ := Heap.get?_push_of_some _ (Heap.get?_push_size _ rfl)
  have g3 : (zp5 h o1 o2).get? (zp2 h o1 o2).objs.size = some _ := Heap.get?_push_of_some _ (Heap.get?_push_of_some _ (Heap.get?_push_size _ rfl))
  have g2 : (zp5 h o1 o2).get? (zp1 h o1).objs.size = some _ := Heap.get?_push_of_some _ (Heap.get?_push_of_some _ (Heap.get?_push_of_some _ (Heap.get?_push_size _ f2)))
  have g1 : (zp5 h o1 o2).get? h.objs.size = some _ := Heap.get?_push_of_some _ (Heap.get?_push_of_some _ (Heap.get?_push_of_some _ (Heap.get?_push_of_some _ (Heap.get?_push_size _ f1))))
  rw [z2, z3, z4] at g5
  rw [z1, z2] at g3
  rw [z3] at g4
  rw [z1] at g2
  exact ⟨⟨g5, g3, g4, g1, g2, fun c o x => Heap.get?_push_of_some _ (Heap.get?_push_of_some _ (Heap.get?_push_of_some _ (Heap.get?_push_of_some _ (Heap.get?_push_of_some _ x))))⟩, z4⟩
theorem call_zip_ls {l : Addr} {xs : Array Value} {x : Str} {t : Tok} {Q : Value → Shared → Prop} (hl : s.heap.IsList l xs)
    (h : ∀ h', Zipped s.heap h' (itL l) (itS x t) → Q (.ref (s.heap.objs.size + 4)) { s with heap := h' }) : wpAny (model prog w) A (call (.type "zip") [.ref l, .str x t]) Q E s := by
  refine callType_new F.called_zip (by decide) (F.typeCall_zip_2 _ _) (F.newCall_zip_2 _ _) (fun obj => F.args_object_init_3 obj _ _) F.entry_zip_new
    (meets_zip_ls l xs x t) ⟨hl, ?_⟩
  obtain ⟨Z, z4⟩ := zipped_is s.heap (itL l) (itS x t) rfl rfl
  show _ ∧ _
  rw [z4]
  exact ⟨⟨_, Z.z, rfl⟩, h _ Z⟩
theorem draws_str (hh : A.handled = none) (it : Addr) (l : List Nat) (t : Tok) : Draws prog w A it [it] (tx l).cps.size (fun i v => ∃ c u, (tx l).cps[i]? = some c ∧ v = .str ⟨#[c]⟩ u) (fun i h => h.IsStrIter it (strIterType (tx l)) (tx l) t i) := by
  unfold strIterType
  split
  · exact Draws.strAscii (A := A) hh _ _ _
  · exact Draws.strWide (A := A) hh _ _ _
end
theorem za_new (N l : Nat) (h : l < N) : ZA (N + 4) (N + 2) (N + 3) N (N + 1) [N, l] [N + 1] := by
  have ne : ∀ a b : Nat, a ≠ b → (a : Addr) ≠ b := fun _ _ h => h
  have nin1 : ∀ a : Nat, a ≠ N → a ≠ l → (a : Addr) ∉ [(N : Addr), l] := fun a h1 h2 q => by
    rcases List.mem_cons.mp q with q | q
    · exact h1 q
    · exact h2 (List.mem_singleton.mp q)
  have nin2 : ∀ a : Nat, a ≠ N + 1 → (a : Addr) ∉ [(N + 1 : Nat)] := fun a h1 q => h1 (List.mem_singleton.mp q)
  exact ⟨ne _ _ (by omega), ne _ _ (by omega), ne _ _ (by omega), ne _ _ (by omega), ne _ _ (by omega), ne _ _ (by omega), ne _ _ (by omega), ne _ _ (by omega), ne _ _ (by omega), ne _ _ (by omega),
    ⟨nin1 _ (by omega) (by omega), nin1 _ (by omega) (by omega), nin1 _ (by omega) (by omega)⟩, ⟨nin2 _ (by omega), nin2 _ (by omega), nin2 _ (by omega)⟩⟩
theorem off_new (N a : Nat) (h : a < N) : a ∉ [N + 4, N + 3, N, N + 1] := by simp; omega
theorem mk_zip_ls {elts : List Expr} {k : Nat} {tp : Pos} {as : List D} {bs : List Nat} : MkIter "zip" [.list as, .str bs] (.Tuple elts k tp) (zipped as (signs bs)) := .mk fun prog w X A s Q E vs hh hX ra hQ => by
  obtain ⟨_, _, rfl, r, r'⟩ := ra.two
  cases r with | @list l us hl hf rb =>
  cases r' with | str _ t =>
  obtain ⟨nn, hol⟩ := id hl
  refine call_zip_ls hl.isList fun h' Z => wpAny_pyIter_zip Z.z ?_
  have hz := Z.z
  have hTI := Z.ti
  have hTO := Z.to
  have hi1 : h'.IsListIter s.heap.objs.size l 0 := ⟨_, Z.i1, rfl, rfl⟩
  have hi2 : h'.IsStrIter (s.heap.objs.size + 1) (strIterType (tx bs)) (tx bs) t 0 := ⟨_, Z.i2, rfl, rfl⟩
  have hk := Z.up
  clear Z
  generalize hN : s.heap.objs.size = N at *
  have hll : l < N := hN ▸ Heap.lt_size hol
  have hnew : ∀ a, N ≤ a → s.heap.get? a = none := fun a h => none_at (hN ▸ h)
  have ZZ : ZA (N + 4) (N + 2) (N + 3) N (N + 1) [N, l] [N + 1] := za_new N l hll
  refine hQ _ ((N + 4) :: (N + 2) :: (N + 3) :: N :: (N + 1) :: ([N, l] ++ [N + 1])) [N + 4, N + 3, N, N + 1] (fun X i h => (IsZip h (N + 4) (N + 2) (N + 3) .none ∧ IsPair h (N + 2) (.ref N) (.ref (N + 1)) ∧ (∃ a b, IsPair h (N + 3) a b) ∧ (h.IsListIter N l i ∧ h.IsList l us.toArray) ∧ h.IsStrIter (N + 1) (strIterType (tx bs)) (tx bs) t i) ∧ (PL h l us ∧ RepAll X h us as)) h' s.toks (fun A' hA' => ?_) ?_ hk ?_ ?_
  · have D₁ := Draws.list (prog := prog) (w := w) (A := A'.in1) hA' N l (Nat.ne_of_lt hll) us.toArray
    have D₂ := draws_str (prog := prog) (w := w) (A := A'.in1) hA' (N + 1) bs t
    refine Run.of_walksT (St' := fun X h => PL h l us ∧ RepAll X h us as) (zipD_walks (N + 4) (N + 2) (N + 3) D₁ D₂ ZZ) ?_ ?_ ?_ ?_ ?_ ?_
    · simp [zipped_length, rb.length, signs]
    · intro i h st b hb
      obtain ⟨e1, e2, ⟨a, b', e3⟩, ⟨⟨o4, e4, _⟩, _⟩, ⟨o5, e5, _⟩⟩ := st
      simp only [List.mem_cons, List.not_mem_nil, or_false] at hb
      rcases hb with rfl | rfl | rfl | rfl
      · exact ⟨_, e1⟩
      · exact ⟨_, e3⟩
      · exact ⟨_, e4⟩
      · exact ⟨_, e5⟩
    · exact fun X h h' st hk hs => ⟨st.1.at fun o e => hk l (by simp) o e, st.2.mono hs⟩
    · exact fun X h a st ha => ⟨st.1, st.2.new ha⟩
    · intro X i d vals h hd hP st
      obtain ⟨a, b, ha, hb, rfl⟩ := zipped_get hd
      obtain ⟨x, y, hx, ⟨c, u, hc, rfl⟩, rfl⟩ := hP
      obtain ⟨v, hv, rv⟩ := st.2.get ha
      have e1 : us[i]? = some x := by simpa using hx
      rw [e1] at hv; cases hv
      have hc' : bs[i]? = some c := by simpa using hc
      simp only [signs, List.getElem?_map, hc', Option.map_some, Option.some.injEq] at hb
      subst hb
      exact ⟨_, rfl, .cons rv (.cons (.str [c] u) .nil)⟩
    · intro X h h' hI st hk
      have hlw : ∀ a, a < N → a ∉ [N + 4, N + 3, N, N + 1] := fun a ha => off_new N a ha
      have hs : Same X h h' := fun b o hb _ e => hk b o (fun q => hb (hI b q)) e
      exact ⟨st.1.at fun o e => hk l o (hlw l hll) e, st.2.mono hs⟩
  · have lift4 : ∀ {vs : List Value} {ds : List D}, RepAll X s.heap vs ds → RepAll ([N + 4, N + 3, N, N + 1] ++ X) h' vs ds := fun r =>
      ((((r.new (hnew (N + 1) (by omega))).new (hnew N (by omega))).new (hnew (N + 3) (by omega))).new (hnew (N + 4) (by omega))).keeps hk
    exact ⟨⟨hz, hTI, ⟨_, _, hTO⟩, ⟨hi1, hl.isList.at fun o e => hk l o e⟩, hi2⟩, ⟨hl.at fun o e => hk l o e, lift4 rb⟩⟩
  · intro b hb
    obtain ⟨o4, e4, _⟩ := hi1
    obtain ⟨o5, e5, _⟩ := hi2
    simp only [List.mem_cons, List.not_mem_nil, or_false] at hb
    rcases hb with rfl | rfl | rfl | rfl
    · exact ⟨hnew _ (by omega), _, hz⟩
    · exact ⟨hnew _ (by omega), _, hTO⟩
    · exact ⟨hnew _ (by omega), _, e4⟩
    · exact ⟨hnew _ (by omega), _, e5⟩
  · intro b hb
    simp only [List.mem_cons, List.cons_append, List.nil_append, List.not_mem_nil, or_false] at hb
    rcases hb with rfl | rfl | rfl | rfl | rfl | rfl | rfl | rfl
    · exact .inl (by simp)
    · have hq : N + 2 ∉ X := fun q => by
        obtain ⟨o, e⟩ := hX _ q
        rw [hnew _ (by omega)] at e; cases e
      exact .inr ⟨hq, _, hTI, .inl ⟨_, _, rfl⟩⟩
    · exact .inl (by simp)
    · exact .inl (by simp)
    · exact .inl (by simp)
    · exact .inl (by simp)
    · exact .inr ⟨hf, _, hk _ _ hol, .inl ⟨_, _, rfl⟩⟩
    · exact .inl (by simp)
end
section
theorem strs_key (ls : List (List Nat)) (h : ∀ l ∈ ls, l.length ≤ 1000 ∧ ∀ c ∈ l, c < 0x110000) : PyData.canLayAll0 (ls.map fun l => .str (tx l)) = true ∧ PyData.depthAll (ls.map fun l => .str (tx l)) = 0 ∧ PyData.weightAll (ls.map fun l => .str (tx l)) ≤ ls.length * 1001 := by
  induction ls with
  | nil => exact ⟨by simp [PyData.canLayAll0], by simp [PyData.depthAll], by simp [PyData.weightAll]⟩
  | cons a r ih =>
    obtain ⟨h1, h2, h3⟩ := ih fun i hi => h i (List.mem_cons_of_mem _ hi)
    obtain ⟨ha, hc⟩ := h a (List.mem_cons_self ..)
    have hok : PyData.strOk (tx a) = true := by unfold PyData.strOk; simpa using hc
    refine ⟨by simp [PyData.canLayAll0, PyData.canLay0, h1, hok], by simp [PyData.depthAll, PyData.depth, h2], ?_⟩
    rw [List.map_cons, PyData.weightAll, PyData.weight, List.length_cons, Nat.succ_mul]
    have : (tx a).cps.size = a.length := by simp
    omega
set_option tactic.hygienic true in
theorem lay_told (ls : List (List Nat)) (k : Int) (h : ∀ l ∈ ls, l.length ≤ 1000 ∧ ∀ c ∈ l, c < 0x110000) (hl : ls.length ≤ 100) (hk : k.natAbs < 2 ^ 32) : (py (.tup [.list (dstrs ls), .int k])).layable0 = true := by
  obtain ⟨h1, h2, h3⟩ := strs_key ls h
  have hb : (if k == 0 then 0 else k.natAbs.log2 + 1) ≤ 33 := by
    split
    · exact Nat.zero_le _
    · rename_i hne
      have hz : k.natAbs ≠ 0 := fun q => hne (by simpa using q)
      have := (Nat.log2_lt hz).mpr hk
      omega
  unfold PyData.layable0
  simp only [py, pys, pys_strs, PyData.canLay0, PyData.canLayAll0, PyData.depth, PyData.depthAll, PyData.weight, PyData.weightAll, h1, h2, Bool.true_and, Bool.and_true, Bool.and_eq_true, decide_eq_true_eq]
  omega
theorem cmp_ne_told (ls : List (List Nat)) (k : Int) (h : ∀ l ∈ ls, l.length ≤ 1000 ∧ ∀ c ∈ l, c < 0x110000) (hl : ls.length ≤ 100) (hk : k.natAbs < 2 ^ 32) : CmpIs .NotEq (.tup [.list (dstrs ls), .int k]) (.tup [.list (dstrs ls), .int k]) false := by
  have hok : pyOk (.tup [.list (dstrs ls), .int k]) = true := by simp [pyOk, pysOk, ok_strs]
  refine cmp_ne_data (b := true) hok hok (lay_told ls k h hl hk) (lay_told ls k h hl hk) ?_
  simp [py, pys, pys_strs, PyData.eqv, PyData.eqvAll, eqv_strs]
section
variable {G : Gd} {n : Nat} {env : Env} {ρ : Loc} {ow : Own} {bs : List (List Stmt)} {o : Out}
theorem evG_T {e : Expr} {d : D} (h : EvT G n env ρ ow e d) : EvG G n env ρ ow e fun d' ow' => d' = d ∧ ow' = ow := .mk fun X A s E R F =>
  wpAny_mono (h.go X A s E R F) (fun v s' q => ⟨d, ow, X, ⟨rfl, rfl⟩, .refl .., q.1, q.2.1, q.2.2, fun b z => .inl z⟩) fun _ _ y => y
end
end
set_option compiler.extract_closed false
local macro_rules | `(tactic| walk_at "lk") => `(tactic| first | with_reducible exact lk_here | ((with_reducible apply lk_next); (focus kernel_rfl); walk_at "lk"))
local macro_rules | `(tactic| walk_at "kr") => `(tactic| (focus kernel_rfl))
local macro_rules | `(tactic| walk_at "subs") => `(tactic| first | with_reducible exact Sub.nil _ | ((with_reducible apply Sub.cons); (focus (walk_at "lk")); walk_at "subs") | ((with_reducible apply Sub.cons'); (focus (walk_at "lk")); rotate_left; walk_at "subs"))
local macro_rules | `(tactic| walk_at "fsubs") => `(tactic| first | with_reducible exact FSub.nil _ | ((with_reducible apply FSub.cons); (focus (walk_at "lk")); (focus kernel_rfl); walk_at "fsubs"))
local macro_rules | `(tactic| walk_at "K") => `(tactic| focus (rw [(by with_reducible assumption : Gd.K _ = _)]; exact rfl))
local macro_rules | `(tactic| walk_at "n") => `(tactic| first
  | ((with_reducible apply ev_name); (focus (walk_at "lk")); walk_at "kr"; walk_at "kr")
  | ((with_reducible apply ev_glob); walk_at "kr"; (walk_at "K"); walk_at "kr")
  | ((with_reducible apply ev_builtin); walk_at "kr"; (walk_at "K"); (focus exact rfl); (focus decide); walk_at "kr"))
local macro_rules | `(tactic| walk_at "e") => `(tactic| first | exact ev_int | exact ev_neg | exact ev_lit | apply ev_binop | exact bin_add | exact bin_sub | exact bin_mod (by decide) | exact bin_div' (by decide) | exact evAll_nil | exact evp_none | apply evp_some | exact ev_none | exact ev_bool)
local macro_rules | `(tactic| walk_at "c") => `(tactic| first | exact cmp_eq_str | exact cmp_ne_str | exact cmp_eq_int | exact cmp_ne_int | exact cmp_lt_int | exact cmp_le_int | exact cmp_gt_int | exact cmp_ge_int | exact cmp_in_str | exact cmp_in_tup | exact cmp_is_type | exact truth_int | exact truth_bool | apply tst_not)
local macro_rules | `(tactic| walk_at "r") => `(tactic| first | apply ev_item | apply tst_cmp | apply ev_cmp | apply cmp_in_strE | apply tst_plain)
local macro_rules | `(tactic| walk_at "one") => `(tactic| first
  | (with_reducible walk_at "e")
  | (with_reducible walk_at "c")
  | ((with_reducible apply ev_litE); (focus exact rfl))
  | walk_at "n"
  | ((with_reducible apply ev_cut_str); rotate_right)
  | (with_reducible first | apply bin_pow2 | apply bin_pow6 | apply bin_div' | apply bin_mod')
  | ((with_reducible walk_at "r"); (focus exact rfl))
  | ((with_reducible apply evAll_cons); (focus (intro _ _ h; cases h))))
set_option compiler.extract_closed true

theorem lenk {m n : Nat} (h : Nat.ble m n = true) : m ≤ n := Nat.le_of_ble_eq_true h
theorem clip_nat (n k : Nat) : clipAt n (k : Int) = min k n := by
  have h := clipAt_cast n (k : Int)
  rw [if_neg (Int.not_lt.mpr (Int.natCast_nonneg k))] at h
  omega
theorem clip_neg (n : Nat) {k : Nat} (h : 0 < k) : clipAt n (-(k : Int)) = n - k := by
  have h := clipAt_cast n (-(k : Int))
  rw [if_pos (by omega)] at h
  omega
theorem clip_a (a b : List Nat) : clipAt (a ++ b).length (a.length : Int) = a.length := by rw [clip_nat, List.length_append, Nat.min_eq_left (Nat.le_add_right _ _)]
theorem clip_b (a b : List Nat) (h : 0 < b.length) : clipAt (a ++ b).length (-(b.length : Int)) = a.length := by rw [clip_neg _ h, List.length_append, Nat.add_sub_cancel]
noncomputable def stock : List Nat := S "a*?[]!-.^~&#\" \\\n"
noncomputable def pairF (p : Int) : List Nat := [stock.getD (p % 16).toNat 0, stock.getD ((p % 16 + 1 + p / 16 % 15) % 16).toNat 0]
noncomputable def wordsF (pr : List Nat) : Nat → List (List Nat)
  | 0 => [[]]
  | k + 1 => (wordsF pr k).flatMap fun w => pr.map fun c => w ++ [c]
theorem wordsF_len (pr : List Nat) : ∀ k, ∀ w ∈ wordsF pr k, w.length = k
  | 0, w, h => by rw [List.mem_singleton.mp h]; rfl
  | k + 1, w, h => by
    obtain ⟨v, hv, h'⟩ := List.mem_flatMap.mp h
    obtain ⟨c, _, rfl⟩ := List.mem_map.mp h'
    rw [List.length_append, wordsF_len pr k v hv]; rfl
theorem wordsF_card (pr : List Nat) : ∀ k, (wordsF pr k).length = pr.length ^ k
  | 0 => rfl
  | k + 1 => by
    unfold wordsF
    have : ∀ l : List (List Nat), (l.flatMap fun w => pr.map fun c => w ++ [c]).length = l.length * pr.length := fun l => by
      induction l with
      | nil => simp
      | cons a r ih => rw [List.flatMap_cons, List.length_append, ih, List.length_map, List.length_cons, Nat.succ_mul, Nat.add_comm]
    rw [this, wordsF_card pr k, Nat.pow_succ]
section
variable {P : Params} {G : Gd} (hK : G.K = K01 P)
include hK
set_option maxHeartbeats 1000000
theorem pair_is (p : Int) (hp : 0 ≤ p ∧ p < 10000) : FnIs G 20 (.ref 220) [.int p] (.str (pairF p)) := by
  refine fn_K hK [("pick", .int p)] rfl rfl rfl ?_ rfl rfl rfl rfl rfl rfl rfl rfl ?_
  · intro vs hv; obtain ⟨a, rfl⟩ := len1 hv; kernel_rfl
  intro X L
  refine ex_assign (d := .str stock) (by kernel_rfl) rfl ev_lit ?_
  refine ex_ret (d := .str (pairF p)) (ev_binop (ev_item rfl ?_ ?_ (item_str0 ?_ (by decide))) (ev_item rfl ?_ ?_ (item_str0 ?_ (by decide))) (bin_cat' (by simp))) rfl
  any_goals (repeat' (walk_at "one"))
  · show 0 ≤ p % 16 ∧ p % 16 < ((16 : Nat) : Int); omega
  · show 0 ≤ _ ∧ (p % 16 + 1 + p / 16 % 15) % 16 < ((16 : Nat) : Int); omega
theorem words_is (pr : List Nat) (hpr : pr.length = 2) : FnIs G 20 (.ref 225) [.str pr] (.list (dstrs (wordsF pr 6))) := by
  refine fn_K hK [("pair", .str pr)] rfl rfl rfl ?_ rfl rfl rfl rfl rfl rfl rfl rfl ?_
  · intro vs hv; obtain ⟨a, rfl⟩ := len1 hv; kernel_rfl
  intro X L
  refine ex_assign (d := .list [.str []]) (by kernel_rfl) rfl (ev_list ?_ (by decide)) ?_
  · repeat' (walk_at "one")
  refine ex_forN (ds := zs 0 6) (by kernel_rfl) (src_of (ev_callT (d := .rng 0 6) ?_ ?_ rfl fn_range1 rfl) (iter_rng rfl)) (fun i => [("words", .list (dstrs (wordsF pr i))), ("pair", .str pr)]) (fun _ => []) ?_ OSub.nil (fun _ => rfl) ?_ ?_
  · repeat' (walk_at "one")
  · repeat' (walk_at "one")
  · walk_at "subs"
    rfl
  · intro i d hd Y
    have hi : i < 6 := by have := (List.getElem?_eq_some_iff.mp hd).1; simpa [zs] using this
    refine ex_comp (ds := dstrs (wordsF pr i)) (ρc := [("pair", .str pr)]) (out := dstrs (wordsF pr (i + 1))) (by kernel_rfl) rfl (src_of ?_ iter_list) (fun _ => rfl) rfl rfl (by decide) (by decide) ?_ (fun C da => ?_) ?_ ?_
    · repeat' (walk_at "one")
    · walk_at "fsubs"
    · have e : dstrs (wordsF pr (i + 1)) = (dstrs (wordsF pr i)).flatMap fun d => (signs pr).map fun e => D.str (d.s ++ e.s) := by
        simp only [dstrs, signs, wordsF, List.map_flatMap, List.flatMap_map, List.map_map]; rfl
      rw [e]
      refine loops_two (fun _ => signs pr) (fun d e => D.str (d.s ++ e.s)) rfl rfl (by kernel_rfl) rfl rfl (fun _ => rfl) (fun d hd done => src_of ?_ iter_str) (fun d hd e he done => ?_)
      · repeat' (walk_at "one")
      · obtain ⟨l, hl, rfl⟩ := mem_dstrs hd
        obtain ⟨c, hc, rfl⟩ := mem_signs he
        show Ev _ _ _ _ _ _ (.str (l ++ [c]))
        refine ev_binop ?_ ?_ (bin_cat' (by show l.length + 1 ≤ _; rw [wordsF_len pr i l hl]; omega))
        any_goals (repeat' (walk_at "one"))
    · refine small ?_
      rw [dstrs, List.length_map, wordsF_card, hpr]
      exact Nat.le_trans (Nat.pow_le_pow_right (by decide) (show i + 1 ≤ 6 by omega)) (by decide)
    · refine ex_nil (ex_turn_end ?_ OSub.nil)
      walk_at "subs"
  · rw [show (zs 0 6).length = 6 from rfl]
    refine ex_ret (d := .list (dstrs (wordsF pr 6))) ?_ rfl
    repeat' (walk_at "one")
end
noncomputable def placesF (x : List Nat) (w : List Nat) : List Int := (w.zipIdx).flatMap fun p => if [p.1] == x then [(p.2 : Int) + 1] else []
noncomputable def weightF (w x : List Nat) : Int := (placesF x w).sum
noncomputable def isQuote (c : Nat) : Bool := c == 34 || c == 92
noncomputable def escF (c : Nat) : List Nat := if isQuote c then [92, c] else [c]
noncomputable def quoteF (q : Bool) (w : List Nat) : List Nat := if q then 34 :: (w.flatMap escF ++ [34]) else w.flatMap fun c => [92, c]
noncomputable def cutF (k : Nat) : List Nat := if k % 2 = 0 then [32] else [10]
noncomputable def manner (m : Int) (k : Nat) : Bool := m / 2 ^ k % 2 != 0
noncomputable def textF (m : Int) (ws : List (List Nat)) : List Nat := (ws.zipIdx).flatMap fun p => quoteF (manner m p.2) p.1 ++ cutF p.2
noncomputable def bracketF (c : Nat) : List Nat := if c == 42 || c == 63 || c == 91 then [91, c, 93] else [c]
noncomputable def patternF (w : List Nat) : List Nat := 42 :: (joinL [42] (w.map bracketF) ++ [42])
section
variable {P : Params} {G : Gd} (hK : G.K = K01 P)
include hK
set_option maxHeartbeats 1000000
theorem alphabet_is : FnIs G 10 (.ref 213) [] (.str (S "ABCDEFGHIJKLMNOPQRSTUVWXYZabcdefghijklmnopqrstuvwxyz0123456789+/")) := by
  refine fn_K hK [] rfl rfl rfl ?_ rfl rfl rfl rfl rfl rfl rfl rfl ?_
  · intro vs hv; rw [len0 hv]; kernel_rfl
  intro X L
  exact ex_ret ev_lit rfl
theorem weight_is (w x : List Nat) (hw : w.length ≤ 100) : FnIs G 40 (.ref 230) [.str w, .str x] (.int (weightF w x)) := by
  refine fn_K hK [("word", .str w), ("one", .str x)] rfl rfl rfl ?_ rfl rfl rfl rfl rfl rfl rfl rfl ?_
  · intro vs hv; obtain ⟨a, b, rfl⟩ := len2 hv; kernel_rfl
  intro X L
  refine ex_ret (d := .int (weightF w x)) ?_ rfl
  refine ev_callB (ds := [.list (dints (placesF x w))]) ?_ (evAll_cons (by intro _ _ h; cases h) ?_ evAll_nil) rfl fn_sum rfl
  · repeat' (walk_at "one")
  have e : dints (placesF x w) = (numbered (signs w)).flatMap fun d => if d.snd.s == x then [D.int (d.fst.i + 1)] else [] := by
    rw [numbered_signs, dints, placesF, List.map_flatMap]
    congr 1
    funext p
    show List.map D.int (if ([p.1] == x) = true then [(p.2 : Int) + 1] else []) = if ([p.1] == x) = true then [D.int ((p.2 : Int) + 1)] else []
    by_cases h : ([p.1] == x) = true
    · rw [if_pos h, if_pos h]; rfl
    · rw [if_neg h, if_neg h]; rfl
  refine ev_comp (ds := numbered (signs w)) (ρc := [("one", .str x)]) (out := dints (placesF x w)) (src_mk rfl rfl ?_ (evAll_cons (by intro _ _ h; cases h) ?_ evAll_nil) mk_enum_str) (fun _ => rfl) rfl rfl (by decide) (by decide) ?_ (fun C da => ?_) ?_
  · repeat' (walk_at "one")
  · repeat' (walk_at "one")
  · walk_at "fsubs"
  · rw [e]
    refine loops_pfilter (fun d => d.snd.s == x) D.fst D.snd (fun d => D.int (d.fst.i + 1)) rfl rfl rfl rfl (fun d hd => ?_) (fun d hd done => ?_) (fun d hd h done => ?_)
    · obtain ⟨i, d', _, rfl⟩ := mem_numbered hd; exact unp_tup
    · obtain ⟨i, d', h', rfl⟩ := mem_numbered hd
      obtain ⟨c, hc, rfl⟩ := mem_signs (List.mem_of_getElem? h')
      show Tst G _ _ [("sign", .str [c]), ("place", .int i), ("one", .str x)] _ _ ([c] == x)
      repeat' (walk_at "one")
    · obtain ⟨i, d', h', rfl⟩ := mem_numbered hd
      show Ev G _ _ [("sign", d'), ("place", .int i), ("one", .str x)] _ _ (.int (i + 1))
      repeat' (walk_at "one")
  · refine small ?_
    rw [e]
    have h2 := ifs_len (fun d => d.snd.s == x) (fun d => D.int (d.fst.i + 1)) (numbered (signs w))
    rw [numbered_length] at h2
    have h3 : (signs w).length = w.length := by simp [signs]
    omega
end
section
variable {P : Params} {G : Gd} (hK : G.K = K01 P)
include hK
set_option maxHeartbeats 1000000
set_option tactic.hygienic true in
theorem text_is (m : Int) (hm : 0 ≤ m) (ws : List (List Nat)) (hw : ws.length ≤ 8) (hl : ∀ w ∈ ws, w.length ≤ 8) : FnIs G 40 (.ref 235) [.list (dstrs ws), .int m] (.str (textF m ws)) := by
  refine fn_K hK [("words", .list (dstrs ws)), ("manners", .int m)] rfl rfl rfl ?_ rfl rfl rfl rfl rfl rfl rfl rfl ?_
  · intro vs hv; obtain ⟨a, b, rfl⟩ := len2 hv; kernel_rfl
  intro X L
  refine ex_assign (d := .str []) (by kernel_rfl) rfl (ev_litE rfl) ?_
  have bound : ∀ i, (((ws.zipIdx).take i).flatMap fun p => quoteF (manner m p.2) p.1 ++ cutF p.2).length ≤ 1000 := fun i => by
    refine Nat.le_trans (flatMap_le _ 100 _ fun p hp => ?_) ?_
    · have hp' : p.1 ∈ ws := List.fst_mem_of_mem_zipIdx (List.mem_of_mem_take hp)
      have h1 := hl _ hp'
      have h2 : (cutF p.2).length = 1 := by unfold cutF; split <;> rfl
      have h3 : (quoteF (manner m p.2) p.1).length ≤ 2 + p.1.length * 2 := by
        unfold quoteF
        split
        · have := flatMap_le escF 2 p.1 fun c _ => by unfold escF; split <;> simp
          simp only [List.length_cons, List.length_append, List.length_nil]; omega
        · have := flatMap_le (fun c => [92, c]) 2 p.1 fun c _ => Nat.le_refl _
          omega
      rw [List.length_append]; omega
    · rw [List.length_take, List.length_zipIdx]; omega
  refine ex_forP (ds := numbered (dstrs ws)) D.fst D.snd (by kernel_rfl) (by kernel_rfl) (src_mk rfl rfl ?_ (evAll_cons (by intro _ _ h; cases h) ?_ evAll_nil) mk_enum_list)
    (fun i => [("text", .str (((ws.zipIdx).take i).flatMap fun p => quoteF (manner m p.2) p.1 ++ cutF p.2)), ("manners", .int m)]) (fun _ => []) ?_ OSub.nil (fun _ => rfl) (fun d hd => ?_) ?_ ?_
  · repeat' (walk_at "one")
  · repeat' (walk_at "one")
  · walk_at "subs"
    rfl
  · obtain ⟨i, d', _, rfl⟩ := mem_numbered hd; exact unp_tup
  · intro i d hd Y
    obtain ⟨d', h1, rfl⟩ := numbered_get hd
    obtain ⟨w, hw', rfl⟩ := mem_dstrs (List.mem_of_getElem? h1)
    have hiw : ws[i]? = some w := by
      simp only [dstrs, List.getElem?_map] at h1
      cases e : ws[i]? with
      | none => rw [e] at h1; cases h1
      | some w' => rw [e] at h1; cases h1; rfl
    have hi : i < 8 := by have := (List.getElem?_eq_some_iff.mp hiw).1; omega
    have hw8 := hl w hw'
    have hstep : ((ws.zipIdx).take (i + 1)).flatMap (fun p => quoteF (manner m p.2) p.1 ++ cutF p.2) = ((ws.zipIdx).take i).flatMap (fun p => quoteF (manner m p.2) p.1 ++ cutF p.2) ++ quoteF (manner m i) w ++ cutF i := by
      rw [List.take_add_one, List.getElem?_zipIdx, hiw]; simp
    have hb := bound i
    have hb1 := bound (i + 1)
    rw [hstep] at hb1 ⊢
    generalize ((ws.zipIdx).take i).flatMap (fun p => quoteF (manner m p.2) p.1 ++ cutF p.2) = done at hb hb1
    simp only [List.length_append] at hb1
    show Ex G _ _ [("word", .str w), ("k", .int i), ("text", .str done), ("manners", .int m)] _ _ _
    have hp2 : (2 : Int) ^ i ≤ 2 ^ 8 := by
      have : (2 : Nat) ^ i ≤ 2 ^ 8 := Nat.pow_le_pow_right (by decide) (by omega)
      exact_mod_cast this
    have hp1 : (0 : Int) < 2 ^ i := Int.pow_pos (by decide)
    apply ex_if
    · repeat' (walk_at "one")
      · omega
      · exact ⟨hp1, Int.lt_of_le_of_lt hp2 (by decide)⟩
    · intro hc
      have hc' : manner m i = true := hc
      have hq : quoteF (manner m i) w = 34 :: (w.flatMap escF ++ [34]) := by unfold quoteF; rw [if_pos hc']
      rw [hq] at hb1 ⊢
      refine ex_aug (d := .str (done ++ (34 :: (w.flatMap escF ++ [34])))) (by kernel_rfl) (by kernel_rfl) (by walk_at "lk") (d₂ := .str (34 :: (w.flatMap escF ++ [34]))) ?_ (inc_cat' (by simp only [List.length_cons, List.length_append, List.length_nil] at hb1 ⊢; omega)) ?_
      · refine ev_eq (d' := .str (([34] ++ joinL [] (w.map escF)) ++ [34])) (ev_binop (ev_binop (ev_litE (l := [34]) rfl) ?_ (bin_cat' ?_)) (ev_litE (l := [34]) rfl) (bin_cat' ?_)) ?_
        · refine ev_join rfl rfl (ev_litE (l := []) rfl) ?_ ?_
          · refine ev_comp_signs (ρc := []) escF (fun _ => rfl) rfl rfl rfl rfl (FSub.nil _) ?_ (by omega) (fun C da done c hc => ?_)
            · repeat' (walk_at "one")
            · refine ev_if (c := decide (c ∈ [34, 92])) ?_ (fun h => ?_) (fun h => ?_)
              · repeat' (walk_at "one")
              · have : escF c = [92] ++ [c] := by
                  unfold escF isQuote; simp at h; rcases h with h | h <;> simp [h]
                rw [this]
                refine ev_binop (ev_litE (l := [92]) rfl) ?_ (bin_cat' (by simp))
                repeat' (walk_at "one")
              · have : escF c = [c] := by unfold escF isQuote; simp at h ⊢; exact h
                rw [this]
                repeat' (walk_at "one")
          · exact Nat.le_trans (sum_le _ 2 _ fun p hp => by obtain ⟨c, _, rfl⟩ := List.mem_map.mp hp; unfold escF; split <;> simp) (by rw [List.length_map]; omega)
        · rw [joinL_nil, ← List.flatMap_def]; simp only [List.length_cons, List.length_append, List.length_nil] at hb1 ⊢; omega
        · rw [joinL_nil, ← List.flatMap_def]; simp only [List.length_cons, List.length_append, List.length_nil] at hb1 ⊢; omega
        · rw [joinL_nil, ← List.flatMap_def]; simp
      · refine ex_nil ?_
        refine ex_aug (d := .str ((done ++ (34 :: (w.flatMap escF ++ [34]))) ++ cutF i)) (by kernel_rfl) (by kernel_rfl) (by walk_at "lk") (d₂ := .str (cutF i)) (ev_eq (ev_item rfl (ev_litE (l := [32, 10]) rfl) ?_ (item_str0 (i := (i : Int) % 2) ?_ (by decide))) ?_) (inc_cat' (by simp only [List.length_cons, List.length_append, List.length_nil] at hb1 ⊢; omega)) ?_
        · repeat' (walk_at "one")
        · show 0 ≤ (i : Int) % 2 ∧ (i : Int) % 2 < ((2 : Nat) : Int); omega
        · unfold cutF; split
          · rename_i h; rw [show ((i : Int) % 2).toNat = 0 by omega]; rfl
          · rename_i h; rw [show ((i : Int) % 2).toNat = 1 by omega]; rfl
        · refine ex_nil (ex_turn_end ?_ OSub.nil)
          walk_at "subs"
    · intro hc
      have hc' : manner m i = false := hc
      have hq : quoteF (manner m i) w = w.flatMap fun c => [92, c] := by unfold quoteF; rw [hc']; rfl
      rw [hq] at hb1 ⊢
      refine ex_aug (d := .str (done ++ w.flatMap fun c => [92, c])) (by kernel_rfl) (by kernel_rfl) (by walk_at "lk") (d₂ := .str (w.flatMap fun c => [92, c])) ?_ (inc_cat' (by omega)) ?_
      · refine ev_eq (d' := .str (joinL [] (w.map fun c => [92, c]))) (ev_join rfl rfl (ev_litE (l := []) rfl) ?_ ?_) ?_
        · refine ev_comp_signs (ρc := []) (fun c => [92, c]) (fun _ => rfl) rfl rfl rfl rfl (FSub.nil _) ?_ (by omega) (fun C da done c hc => ?_)
          · repeat' (walk_at "one")
          · show Ev G _ _ _ _ _ (.str ([92] ++ [c]))
            refine ev_binop (ev_litE (l := [92]) rfl) ?_ (bin_cat' (by simp))
            repeat' (walk_at "one")
        · exact Nat.le_trans (sum_le _ 2 _ fun p hp => by obtain ⟨c, _, rfl⟩ := List.mem_map.mp hp; simp) (by rw [List.length_map]; omega)
        · rw [joinL_nil, ← List.flatMap_def]
      · refine ex_nil ?_
        refine ex_aug (d := .str ((done ++ w.flatMap fun c => [92, c]) ++ cutF i)) (by kernel_rfl) (by kernel_rfl) (by walk_at "lk") (d₂ := .str (cutF i)) (ev_eq (ev_item rfl (ev_litE (l := [32, 10]) rfl) ?_ (item_str0 (i := (i : Int) % 2) ?_ (by decide))) ?_) (inc_cat' (by simp only [List.length_append]; omega)) ?_
        · repeat' (walk_at "one")
        · show 0 ≤ (i : Int) % 2 ∧ (i : Int) % 2 < ((2 : Nat) : Int); omega
        · unfold cutF; split
          · rename_i h; rw [show ((i : Int) % 2).toNat = 0 by omega]; rfl
          · rename_i h; rw [show ((i : Int) % 2).toNat = 1 by omega]; rfl
        · refine ex_nil (ex_turn_end ?_ OSub.nil)
          walk_at "subs"
  · refine ex_ret (d := .str (textF m ws)) (ev_eq (by repeat' (walk_at "one")) ?_) rfl
    rw [numbered_length, show (dstrs ws).length = (ws.zipIdx).length by simp [dstrs], List.take_length]; rfl
end
noncomputable def specialF (c : Nat) : Bool := (S "()[]{}?*+-|^$\\.&~# \t\n\r\x0b\x0c").contains c
noncomputable def tokF (c : Nat) : List Nat := if c == 42 || c == 63 then [91, c, 93] else if c == 91 then [91, 92, 91, 93] else if specialF c then [92, c] else [c]
noncomputable def transF (w : List Nat) : List Nat := S "(?s:" ++ ((w.flatMap fun c => S "(?>.*?" ++ (tokF c ++ [41])) ++ S ".*" ++ S ")\\Z")
section
variable {P : Params} {G : Gd} (hK : G.K = K01 P)
include hK
set_option maxHeartbeats 1000000
theorem pattern_is (w : List Nat) (hw : w.length ≤ 100) : FnIs G 40 (.ref 240) [.str w] (.str (patternF w)) := by
  refine fn_K hK [("word", .str w)] rfl rfl rfl ?_ rfl rfl rfl rfl rfl rfl rfl rfl ?_
  · intro vs hv; obtain ⟨a, rfl⟩ := len1 hv; kernel_rfl
  intro X L
  have hb : ∀ c, (bracketF c).length ≤ 3 := fun c => by unfold bracketF; split <;> simp
  have hsum : ((w.map bracketF).map fun p => p.length + [42].length).sum ≤ 1000 := by
    refine Nat.le_trans (sum_le _ 4 _ fun p hp => ?_) (by rw [List.length_map]; omega)
    obtain ⟨c, _, rfl⟩ := List.mem_map.mp hp
    have := hb c
    simp only [List.length_singleton]; omega
  have hj : (joinL [42] (w.map bracketF)).length ≤ 1000 := by
    have : ∀ ps : List (List Nat), (joinL [42] ps).length ≤ (ps.map fun p => p.length + [42].length).sum := fun ps => by
      cases ps with
      | nil => exact Nat.zero_le _
      | cons p ps =>
        have : ∀ qs : List (List Nat), (qs.flatMap fun q => [42] ++ q).length = (qs.map fun p => p.length + [42].length).sum := fun qs => by
          induction qs with
          | nil => rfl
          | cons q qs ih => simp only [List.flatMap_cons, List.length_append, ih, List.map_cons, List.sum_cons]; omega
        simp only [joinL, List.length_append, this, List.map_cons, List.sum_cons]; omega
    exact Nat.le_trans (this _) hsum
  refine ex_ret (d := .str (([42] ++ joinL [42] (w.map bracketF)) ++ [42])) (ev_binop (ev_binop (ev_litE (l := [42]) rfl) ?_ (bin_cat' (by simp; omega))) (ev_litE (l := [42]) rfl) (bin_cat' (by simp; omega))) ?_
  · refine ev_join rfl rfl (ev_litE (l := [42]) rfl) (ev_comp_signs (ρc := []) bracketF (fun _ => rfl) rfl rfl rfl rfl (FSub.nil _) ?_ (by omega) (fun C da done c hc => ?_)) (Nat.le_trans hsum (by decide))
    · repeat' (walk_at "one")
    · refine ev_if (c := decide (c ∈ [42, 63, 91])) ?_ (fun h => ?_) (fun h => ?_)
      · repeat' (walk_at "one")
      · have : bracketF c = ([91] ++ [c]) ++ [93] := by
          unfold bracketF; simp at h; rcases h with h | h | h <;> simp [h]
        rw [this]
        refine ev_binop (ev_binop (ev_litE (l := [91]) rfl) ?_ (bin_cat' (by simp))) (ev_litE (l := [93]) rfl) (bin_cat' (by simp))
        repeat' (walk_at "one")
      · have : bracketF c = [c] := by unfold bracketF; simp at h; simp [h]
        rw [this]
        repeat' (walk_at "one")
  · show _ = _
    simp [patternF]
theorem held_is (c : Nat) (hc : c ∈ stock) : FnIs G 40 (.ref 247) [.str (tokF c)] (.str [c]) := by
  refine fn_K hK [("piece", .str (tokF c))] rfl rfl rfl ?_ rfl rfl rfl rfl rfl rfl rfl rfl ?_
  · intro vs hv; obtain ⟨a, rfl⟩ := len1 hv; kernel_rfl
  intro X L
  have h3 : (c = 42 ∨ c = 63 ∨ c = 91) ∨ (c ∈ [93, 45, 46, 94, 126, 38, 35, 32, 92, 10] ∧ tokF c = [92, c]) ∨ (c ∈ [97, 33, 34] ∧ tokF c = [c]) := by
    revert c; decide
  rcases h3 with h | ⟨h, e⟩ | ⟨h, e⟩
  · have e : (tokF c = [91, 42, 93] ∧ c = 42) ∨ (tokF c = [91, 63, 93] ∧ c = 63) ∨ (tokF c = [91, 92, 91, 93] ∧ c = 91) := by
      rcases h with rfl | rfl | rfl
      · exact .inl ⟨rfl, rfl⟩
      · exact .inr (.inl ⟨rfl, rfl⟩)
      · exact .inr (.inr ⟨rfl, rfl⟩)
    refine ex_if (c := true) ?_ (fun _ => ?_) (fun h => by cases h)
    · refine tst_cmp (n := 31) rfl (d₁ := .str (tokF c)) (d₂ := .tup (dstrs [[91, 42, 93], [91, 63, 93], [91, 92, 91, 93]])) ?_ (ev_tup ?_ (by decide)) ?_
      · repeat' (walk_at "one")
      · show EvAll G _ _ _ _ _ [.str [91, 42, 93], .str [91, 63, 93], .str [91, 92, 91, 93]]
        repeat' (walk_at "one")
      · rcases e with ⟨e, _⟩ | ⟨e, _⟩ | ⟨e, _⟩ <;> (rw [e]; exact cmp_in_tup)
    · rcases e with ⟨e, rfl⟩ | ⟨e, rfl⟩ | ⟨e, rfl⟩
      · rw [e]
        exact ex_ret (d := .str [42]) (ev_item rfl (by repeat' (walk_at "one")) ev_neg (item_strN (l := [91, 42, 93]) (by decide) (by decide))) rfl
      · rw [e]
        exact ex_ret (d := .str [63]) (ev_item rfl (by repeat' (walk_at "one")) ev_neg (item_strN (l := [91, 63, 93]) (by decide) (by decide))) rfl
      · rw [e]
        exact ex_ret (d := .str [91]) (ev_item rfl (by repeat' (walk_at "one")) ev_neg (item_strN (l := [91, 92, 91, 93]) (by decide) (by decide))) rfl
  · rw [e]
    refine ex_if (c := false) ?_ (fun h => by cases h) (fun _ => ?_)
    · refine tst_cmp (n := 31) rfl (d₁ := .str [92, c]) (d₂ := .tup (dstrs [[91, 42, 93], [91, 63, 93], [91, 92, 91, 93]])) ?_ (ev_tup ?_ (by decide)) ?_
      · repeat' (walk_at "one")
      · show EvAll G _ _ _ _ _ [.str [91, 42, 93], .str [91, 63, 93], .str [91, 92, 91, 93]]
        repeat' (walk_at "one")
      · exact cmp_in_tup
    · refine ex_nil (ex_if (c := true) ?_ (fun _ => ?_) (fun h => by cases h))
      · refine tst_cmp (n := 31) rfl (d₁ := .str [92]) (d₂ := .str [92]) (ev_cut_str (i := none) (j := some (-1)) (l := [92, c]) ?_ evp_none (evp_some ev_neg) (by simp; decide)) (ev_litE rfl) cmp_eq_str
        repeat' (walk_at "one")
      · refine ex_ret (d := .str [c]) (ev_replace_none (c := 97) (z := []) rfl rfl (ev_item rfl ?_ ev_neg (item_strN (l := [92, c]) (by simp) (by simp))) (ev_litE rfl) (ev_litE rfl) ?_) rfl
        · repeat' (walk_at "one")
        · revert h; simp; omega
  · rw [e]
    refine ex_if (c := false) ?_ (fun h => by cases h) (fun _ => ?_)
    · refine tst_cmp (n := 31) rfl (d₁ := .str [c]) (d₂ := .tup (dstrs [[91, 42, 93], [91, 63, 93], [91, 92, 91, 93]])) ?_ (ev_tup ?_ (by decide)) ?_
      · repeat' (walk_at "one")
      · show EvAll G _ _ _ _ _ [.str [91, 42, 93], .str [91, 63, 93], .str [91, 92, 91, 93]]
        repeat' (walk_at "one")
      · exact cmp_in_tupE (by simp)
    · refine ex_nil (ex_if (c := false) ?_ (fun h => by cases h) (fun _ => ?_))
      · refine tst_cmp (n := 31) rfl (d₁ := .str []) (d₂ := .str [92]) (ev_cut_str (i := none) (j := some (-1)) (l := [c]) ?_ evp_none (evp_some ev_neg) (by simp; decide)) (ev_litE rfl) cmp_eq_str
        repeat' (walk_at "one")
      · refine ex_nil (ex_ret (d := .str [c]) (ev_if (c := true) ?_ (fun _ => ?_) (fun h => by cases h)) rfl)
        · refine tst_cmp (n := 31) rfl (d₁ := .str [c]) (d₂ := .str [97, 33, 34]) ?_ (ev_litE rfl) (cmp_in_strE (by simpa using h))
          repeat' (walk_at "one")
        · repeat' (walk_at "one")
end
noncomputable def groupF (c : Nat) : List Nat := S "(?>.*?" ++ (tokF c ++ [41])
noncomputable def restF (w : List Nat) : List Nat := w.flatMap groupF ++ S ".*"
theorem transF_eq (w : List Nat) : transF w = S "(?s:" ++ (restF w ++ S ")\\Z") := by
  unfold transF restF groupF; rw [List.append_assoc]
theorem tokF_len (c : Nat) : 1 ≤ (tokF c).length ∧ (tokF c).length ≤ 4 := by
  unfold tokF; split
  · exact ⟨by simp, by simp⟩
  · split
    · exact ⟨by simp, by simp⟩
    · split <;> exact ⟨by simp, by simp⟩
theorem restF_len (w : List Nat) : (restF w).length ≤ w.length * 11 + 2 := by
  have := flatMap_le groupF 11 w fun c _ => by
    have := tokF_len c
    unfold groupF
    simp only [List.length_append, List.length_singleton]
    have : (S "(?>.*?").length = 6 := rfl
    omega
  unfold restF
  rw [List.length_append]
  have : (S ".*").length = 2 := rfl
  omega
theorem cut_mid (a m b : List Nat) (i j : Nat) (hi : a.length = i) (hj : b.length = j) (h0 : 0 < j) : cut (a ++ (m ++ b)) (some i) (some (-(j : Int))) = m := by
  subst hi hj
  have c1 : clipAt (a ++ (m ++ b)).length (a.length : Int) = a.length := clip_a a (m ++ b)
  have c2 : clipAt (a ++ (m ++ b)).length (-(b.length : Int)) = a.length + m.length := by rw [clip_neg _ h0, List.length_append, List.length_append, ← Nat.add_assoc, Nat.add_sub_cancel]
  unfold cut
  simp only [Option.elim]
  rw [c1, c2, List.drop_left, Nat.add_sub_cancel_left, List.take_left]
theorem cut_pre (a b : List Nat) (i : Nat) (hi : a.length = i) : cut (a ++ b) none (some (i : Int)) = a := by
  subst hi
  have c1 : clipAt (a ++ b).length (a.length : Int) = a.length := clip_a a b
  unfold cut
  simp only [Option.elim]
  rw [c1]; simp
theorem cut_post (a b : List Nat) (i : Nat) (hi : a.length = i) : cut (a ++ b) (some (i : Int)) none = b := by
  subst hi
  have c1 : clipAt (a ++ b).length (a.length : Int) = a.length := clip_a a b
  unfold cut
  simp only [Option.elim]
  rw [c1, List.drop_left, List.length_append, Nat.add_sub_cancel_left, List.take_length]
theorem cut_end (a b : List Nat) (j : Nat) (hj : b.length = j) (h0 : 0 < j) : cut (a ++ b) (some (-(j : Int))) none = b := by
  subst hj
  have c1 : clipAt (a ++ b).length (-(b.length : Int)) = a.length := clip_b a b h0
  unfold cut
  simp only [Option.elim]
  rw [c1, List.drop_left, List.length_append, Nat.add_sub_cancel_left, List.take_length]
theorem tokF_41 (c : Nat) (hc : c ∈ stock) : 41 ∉ tokF c := by revert c; decide
section
variable {P : Params} {G : Gd} (hK : G.K = K01 P)
include hK
set_option maxHeartbeats 1000000
theorem signs_is (w : List Nat) (hw : w.length ≤ 50) (hs : ∀ c ∈ w, c ∈ stock) : FnIs G 60 (.ref 254) [.str (transF w)] (.str w) := by
  refine fn_K hK [("text", .str (transF w))] rfl rfl rfl ?_ rfl rfl rfl rfl rfl rfl rfl rfl ?_
  · intro vs hv; obtain ⟨a, rfl⟩ := len1 hv; kernel_rfl
  intro X L
  have hrl := restF_len w
  have htl : (transF w).length ≤ 1000 := by
    rw [transF_eq]; simp only [List.length_append]
    have : (S "(?s:").length = 4 := rfl
    have : (S ")\\Z").length = 3 := rfl
    omega
  refine ex_pair_sw (d := .tup [.str [], .str (restF w)]) (by kernel_rfl) (by kernel_rfl) rfl rfl (ev_tup ?_ (by simp; decide)) unp_tup ?_
  · refine evAll_cons (by intro _ _ h; cases h) (ev_litE rfl) (evAll_cons (by intro _ _ h; cases h) (ev_eq (ev_cut_str (i := some 4) (j := some (-3)) (l := transF w) ?_ (evp_some ev_int) (evp_some ev_neg) (small (by omega))) ?_) evAll_nil)
    · repeat' (walk_at "one")
    · rw [transF_eq]; exact congrArg D.str (cut_mid (S "(?s:") (restF w) (S ")\\Z") 4 3 rfl rfl (by decide))
  refine ex_while (σ := List Nat × List Nat) (fun b => [("signs", .str b.1), ("rest", .str (restF b.2)), ("text", .str (transF w))]) (fun _ => []) (fun b => b.1 ++ b.2 = w) (fun b => b.2.length) (fun b => !b.2.isEmpty) ([], w) rfl ?_ OSub.nil (fun _ => rfl) (fun b hb => ?_) (fun b hb hc => ?_) (fun b hb hc => ?_)
  · walk_at "subs"
  · obtain ⟨done, rem⟩ := b
    have hlen : rem.length ≤ 50 := by have := congrArg List.length hb; simp only [List.length_append] at this; omega
    have hr := restF_len rem
    refine tst_cmp (n := 51) rfl (ev_cut_str (i := none) (j := some 6) (l := restF rem) ?_ evp_none (evp_some ev_int) (small (by omega))) (ev_litE (l := S "(?>.*?") rfl) ?_
    · repeat' (walk_at "one")
    · cases rem with
      | nil => exact cmp_eq_str
      | cons c r =>
        have e : cut (restF (c :: r)) none (some 6) = S "(?>.*?" := by
          unfold restF groupF
          rw [List.flatMap_cons, List.append_assoc, List.append_assoc]
          exact cut_pre _ _ 6 rfl
        rw [e]
        exact cmp_eq_str
  · obtain ⟨done, rem⟩ := b
    have hlen := congrArg List.length hb
    simp only [List.length_append] at hlen
    cases rem with
    | nil => cases hc
    | cons c r =>
      have hcs : c ∈ stock := hs c (by rw [← hb]; simp)
      have hr := restF_len (c :: r)
      have hr2 := restF_len r
      have ht := tokF_len c
      simp only [List.length_cons] at hlen hr
      refine ex_pair (d := .list [.str (tokF c), .str (restF r)]) (by kernel_rfl) (by kernel_rfl) rfl rfl (ev_split1 (c := 41) (a := tokF c) (b := restF r) rfl rfl (ev_eq (ev_cut_str (i := some 6) (j := none) (l := restF (c :: r)) ?_ (evp_some ev_int) evp_none (small (by omega))) ?_) (ev_litE rfl) ev_int (tokF_41 c hcs) (by decide) ?_) unp_list ?_
      · repeat' (walk_at "one")
      · have e : restF (c :: r) = S "(?>.*?" ++ (tokF c ++ 41 :: restF r) := by
          unfold restF groupF
          rw [List.flatMap_cons]; simp
        rw [e]; exact congrArg D.str (cut_post _ _ 6 rfl)
      · simp only [List.length_append, List.length_cons]; omega
      refine ex_aug (d := .str (done ++ [c])) (d₂ := .str [c]) (by kernel_rfl) (by kernel_rfl) (by walk_at "lk") ?_ (inc_cat' (by simp; omega)) ?_
      · refine ev_call (f := 247) (ds := [.str (tokF c)]) ?_ ?_ ?_ rfl ((held_is hK c hcs).le (by decide)) rfl
        · repeat' (walk_at "one")
        · rw [hK]; rfl
        · repeat' (walk_at "one")
      · refine ex_nil (ex_end ⟨(done ++ [c], r), by simpa using hb, Nat.lt_succ_self _, ?_, OSub.nil⟩)
        walk_at "subs"
  · obtain ⟨done, rem⟩ := b
    cases rem with
    | cons c r => cases hc
    | nil =>
      have hd : done = w := by simpa using hb
      subst hd
      refine ex_ret (d := .str done) (ev_if (c := true) ?_ (fun _ => ?_) (fun h => by cases h)) rfl
      · refine tst_cmp (n := 51) rfl (d₁ := .str (S "(?s:.*)\\Z")) (d₂ := .str (S "(?s:.*)\\Z")) ?_ (ev_litE rfl) cmp_eq_str
        refine ev_eq (d' := .str ((S "(?s:" ++ S ".*") ++ S ")\\Z")) (ev_binop (ev_binop (ev_eq (ev_cut_str (i := none) (j := some 4) (l := transF done) ?_ evp_none (evp_some ev_int) (small (by omega))) ?_) ?_ (bin_cat' (by decide))) (ev_eq (ev_cut_str (i := some (-3)) (j := none) (l := transF done) ?_ (evp_some ev_neg) evp_none (small (by omega))) ?_) (bin_cat' (by decide))) rfl
        · repeat' (walk_at "one")
        · rw [transF_eq]; exact congrArg D.str (cut_pre _ _ 4 rfl)
        · exact ev_eq (d' := .str (restF [])) (by repeat' (walk_at "one")) rfl
        · repeat' (walk_at "one")
        · rw [transF_eq, ← List.append_assoc]; exact congrArg D.str (cut_end _ _ 3 rfl (by decide))
      · repeat' (walk_at "one")
end
noncomputable def downF (w : List Nat) (b : Nat) (less : Int) : Nat → Nat
  | 0 => 0
  | n + 1 => if ((w.drop (n + 1)).count b : Int) < less then downF w b less n else n + 1
noncomputable def upF (w : List Nat) (a : Nat) (k : Int) : Nat → Nat → Nat
  | 0, p => p
  | f + 1, p => if ((w.take p).count a : Int) < k then upF w a k f (p + 1) else p
noncomputable def laidF (w : List Nat) (a b : Nat) (less : Int) : List Nat :=
  if less ≤ (w.count b : Int) then w.take (downF w b less w.length) ++ [a] ++ w.drop (downF w b less w.length)
  else w.take (upF w a (less - w.count b - 1) w.length 0) ++ [b] ++ w.drop (upF w a (less - w.count b - 1) w.length 0)
theorem cut_take (w : List Nat) (p : Nat) (h : p ≤ w.length) : cut w none (some (p : Int)) = w.take p := by
  have := cut_pre (w.take p) (w.drop p) p (by rw [List.length_take]; omega)
  rwa [List.take_append_drop] at this
theorem cut_drop (w : List Nat) (p : Nat) (h : p ≤ w.length) : cut w (some (p : Int)) none = w.drop p := by
  have := cut_post (w.take p) (w.drop p) p (by rw [List.length_take]; omega)
  rwa [List.take_append_drop] at this
section
variable {P : Params} {G : Gd} (hK : G.K = K01 P)
include hK
set_option maxHeartbeats 1000000
theorem laid_is (w : List Nat) (a b : Nat) (less : Int) (hw : w.length ≤ 100) (hz : less - w.count b - 1 ≤ w.count a) : FnIs G 60 (.ref 266) [.str w, .str [a, b], .int less] (.str (laidF w a b less)) := by
  refine fn_K hK [("word", .str w), ("pair", .str [a, b]), ("less", .int less)] rfl rfl rfl ?_ rfl rfl rfl rfl rfl rfl rfl rfl ?_
  · intro vs hv; obtain ⟨a, b, c, rfl⟩ := len3 hv; kernel_rfl
  intro X L
  refine ex_assign (d := .int (w.count b)) (by kernel_rfl) rfl (ev_count (c := b) rfl rfl ?_ (ev_eq (ev_item rfl ?_ ev_int (item_str0 (l := [a, b]) (by simp) (by simp))) rfl)) ?_
  · repeat' (walk_at "one")
  · repeat' (walk_at "one")
  refine ex_if (c := decide (less ≤ (w.count b : Int))) ?_ (fun h => ?_) (fun h => ?_)
  · repeat' (walk_at "one")
  · have h' : less ≤ (w.count b : Int) := by simpa using h
    have hF : laidF w a b less = w.take (downF w b less w.length) ++ [a] ++ w.drop (downF w b less w.length) := by unfold laidF; rw [if_pos h']
    refine ex_assign (d := .int w.length) (by kernel_rfl) rfl (ev_callB (ds := [.str w]) ?_ ?_ rfl (fn_len_str (by omega)) rfl) ?_
    · repeat' (walk_at "one")
    · repeat' (walk_at "one")
    refine ex_while (σ := Nat) (fun p => [("place", .int p), ("word", .str w), ("pair", .str [a, b]), ("less", .int less)]) (fun _ => []) (fun p => p ≤ w.length ∧ downF w b less p = downF w b less w.length) (fun p => p) (fun p => decide (((w.drop p).count b : Int) < less)) w.length ⟨Nat.le_refl _, rfl⟩ ?_ OSub.nil (fun _ => rfl) (fun p hp => ?_) (fun p hp hc => ?_) (fun p hp hc => ?_)
    · walk_at "subs"
    · refine tst_cmp (n := 51) rfl (d₁ := .int ((w.drop p).count b)) (ev_count (c := b) rfl rfl (ev_eq (ev_cut_str (i := some (p : Int)) (j := none) (l := w) ?_ (evp_some ?_) evp_none (small (by omega))) (congrArg D.str (cut_drop w p hp.1))) (ev_eq (ev_item rfl ?_ ev_int (item_str0 (l := [a, b]) (by simp) (by simp))) rfl)) ?_ cmp_lt_int
      all_goals (repeat' (walk_at "one"))
    · have hlt : ((w.drop p).count b : Int) < less := by simpa using hc
      cases p with
      | zero => rw [List.drop_zero] at hlt; omega
      | succ p =>
        refine ex_aug (d := .int ((p + 1 : Nat) - 1)) (d₂ := .int 1) (by kernel_rfl) (by kernel_rfl) (by walk_at "lk") ev_int inc_sub ?_
        refine ex_nil (ex_end ⟨p, ⟨by omega, ?_⟩, Nat.lt_succ_self _, ?_, OSub.nil⟩)
        · rw [← hp.2]; conv => rhs; unfold downF
          rw [if_pos hlt]
        · walk_at "subs"
          congr 1; omega
    · have hge : ¬ ((w.drop p).count b : Int) < less := by simpa using hc
      have hpp : downF w b less p = p := by
        cases p with
        | zero => rfl
        | succ p => unfold downF; rw [if_neg hge]
      rw [hF, ← hp.2, hpp]
      refine ex_ret (d := .str (w.take p ++ [a] ++ w.drop p)) (ev_binop (ev_binop (ev_eq (ev_cut_str (i := none) (j := some (p : Int)) (l := w) ?_ evp_none (evp_some ?_) (small (by omega))) (congrArg D.str (cut_take w p hp.1))) (ev_eq (ev_item rfl ?_ ev_int (item_str0 (l := [a, b]) (by simp) (by simp))) rfl) (bin_cat' (by simp only [List.length_take, List.length_singleton]; omega))) (ev_eq (ev_cut_str (i := some (p : Int)) (j := none) (l := w) ?_ (evp_some ?_) evp_none (small (by omega))) (congrArg D.str (cut_drop w p hp.1))) (bin_cat' (by simp only [List.length_append, List.length_take, List.length_drop, List.length_singleton]; omega))) rfl
      all_goals (repeat' (walk_at "one"))
  · have h' : ¬ less ≤ (w.count b : Int) := by simpa using h
    have hF : laidF w a b less = w.take (upF w a (less - w.count b - 1) w.length 0) ++ [b] ++ w.drop (upF w a (less - w.count b - 1) w.length 0) := by unfold laidF; rw [if_neg h']
    refine ex_nil ?_
    refine ex_assign (d := .int 0) (by kernel_rfl) rfl ev_int ?_
    refine ex_while (σ := Nat × Nat) (fun q => [("place", .int q.1), ("word", .str w), ("pair", .str [a, b]), ("less", .int less), ("ones", .int (w.count b))]) (fun _ => []) (fun q => q.1 + q.2 = w.length ∧ upF w a (less - w.count b - 1) q.2 q.1 = upF w a (less - w.count b - 1) w.length 0) (fun q => q.2) (fun q => decide (((w.take q.1).count a : Int) < less - w.count b - 1)) (0, w.length) ⟨Nat.zero_add _, rfl⟩ ?_ OSub.nil (fun _ => rfl) (fun q hq => ?_) (fun q hq hc => ?_) (fun q hq hc => ?_)
    · walk_at "subs"
      rfl
    · refine tst_cmp (n := 51) rfl (d₁ := .int ((w.take q.1).count a)) (d₂ := .int (less - w.count b - 1)) (ev_count (c := a) rfl rfl (ev_eq (ev_cut_str (i := none) (j := some (q.1 : Int)) (l := w) ?_ evp_none (evp_some ?_) (small (by omega))) (congrArg D.str (cut_take w q.1 (by omega)))) (ev_eq (ev_item rfl ?_ ev_int (item_str0 (l := [a, b]) (by simp) (by simp))) rfl)) ?_ cmp_lt_int
      all_goals (repeat' (walk_at "one"))
    · have hlt : ((w.take q.1).count a : Int) < less - w.count b - 1 := by simpa using hc
      obtain ⟨p, f⟩ := q
      cases f with
      | zero =>
        have : p = w.length := by have := hq.1; simpa using this
        rw [this, List.take_length] at hlt; omega
      | succ f =>
        refine ex_aug (d := .int (p + 1)) (d₂ := .int 1) (by kernel_rfl) (by kernel_rfl) (by walk_at "lk") ev_int inc_add ?_
        refine ex_nil (ex_end ⟨(p + 1, f), ⟨by have := hq.1; simp only at this ⊢; omega, ?_⟩, Nat.lt_succ_self _, ?_, OSub.nil⟩)
        · rw [← hq.2]; conv => rhs; unfold upF
          rw [if_pos hlt]
        · walk_at "subs"
          rfl
    · have hge : ¬ ((w.take q.1).count a : Int) < less - w.count b - 1 := by simpa using hc
      have hpp : upF w a (less - w.count b - 1) q.2 q.1 = q.1 := by
        obtain ⟨p, f⟩ := q
        cases f with
        | zero => rfl
        | succ p => unfold upF; rw [if_neg hge]
      rw [hF, ← hq.2, hpp]
      have hle : q.1 ≤ w.length := by have := hq.1; omega
      refine ex_ret (d := .str (w.take q.1 ++ [b] ++ w.drop q.1)) (ev_binop (ev_binop (ev_eq (ev_cut_str (i := none) (j := some (q.1 : Int)) (l := w) ?_ evp_none (evp_some ?_) (small (by omega))) (congrArg D.str (cut_take w q.1 hle))) (ev_eq (ev_item rfl ?_ ev_int (item_str0 (l := [a, b]) (by simp) (by simp))) rfl) (bin_cat' (by simp only [List.length_take, List.length_singleton]; omega))) (ev_eq (ev_cut_str (i := some (q.1 : Int)) (j := none) (l := w) ?_ (evp_some ?_) evp_none (small (by omega))) (congrArg D.str (cut_drop w q.1 hle))) (bin_cat' (by simp only [List.length_append, List.length_take, List.length_drop, List.length_singleton]; omega))) rfl
      all_goals (repeat' (walk_at "one"))
end
noncomputable def nextF (held : List Nat) (p c : Nat) : Nat := if (held.drop p).take 1 == [c] then p + 1 else p
noncomputable def rowsF (held pr : List Nat) : Nat → List (List Nat × Nat)
  | 0 => [([], 0)]
  | k + 1 => (rowsF held pr k).flatMap fun r => pr.map fun c => (r.1 ++ [c], nextF held r.2 c)
noncomputable def drows (rs : List (List Nat × Nat)) : List D := rs.map fun r => .tup [.str r.1, .int r.2]
noncomputable def takenF (held pr : List Nat) : List (List Nat) := (rowsF held pr 6).flatMap fun r => if r.2 == held.length then [r.1] else []
set_option tactic.hygienic true in
theorem rowsF_ok (held pr : List Nat) : ∀ k, ∀ r ∈ rowsF held pr k, r.1.length = k ∧ r.2 ≤ held.length
  | 0, r, h => by rw [List.mem_singleton.mp h]; exact ⟨rfl, Nat.zero_le _⟩
  | k + 1, r, h => by
    obtain ⟨q, hq, h'⟩ := List.mem_flatMap.mp h
    obtain ⟨c, _, rfl⟩ := List.mem_map.mp h'
    obtain ⟨h1, h2⟩ := rowsF_ok held pr k q hq
    refine ⟨by rw [List.length_append, h1]; rfl, ?_⟩
    show nextF held q.2 c ≤ _
    unfold nextF
    split
    · rename_i e
      have : ((held.drop q.2).take 1).length = 1 := by rw [beq_iff_eq.mp e]; rfl
      rw [List.length_take, List.length_drop] at this
      omega
    · exact h2
theorem rowsF_card (held pr : List Nat) : ∀ k, (rowsF held pr k).length = pr.length ^ k
  | 0 => rfl
  | k + 1 => by
    unfold rowsF
    have : ∀ l : List (List Nat × Nat), (l.flatMap fun r => pr.map fun c => (r.1 ++ [c], nextF held r.2 c)).length = l.length * pr.length := fun l => by
      induction l with
      | nil => simp
      | cons a r ih => rw [List.flatMap_cons, List.length_append, ih, List.length_map, List.length_cons, Nat.succ_mul, Nat.add_comm]
    rw [this, rowsF_card held pr k, Nat.pow_succ]
theorem mem_drows {rs : List (List Nat × Nat)} {d : D} (h : d ∈ drows rs) : ∃ r ∈ rs, d = .tup [.str r.1, .int (r.2 : Nat)] := let ⟨l, hl, e⟩ := List.mem_map.mp h; ⟨l, hl, e.symm⟩
theorem cut_one (w : List Nat) (p : Nat) (h : p ≤ w.length) : cut w (some (p : Int)) (some ((p : Int) + 1)) = (w.drop p).take 1 := by
  have c1 : clipAt w.length (p : Int) = p := by rw [clip_nat, Nat.min_eq_left h]
  have c2 : clipAt w.length ((p : Int) + 1) = min (p + 1) w.length := clip_nat w.length (p + 1)
  unfold cut
  simp only [Option.elim]
  rw [c1, c2]
  by_cases hp : p = w.length
  · subst hp; simp
  · have : min (p + 1) w.length - p = 1 := by omega
    rw [this]
section
variable {P : Params} {G : Gd} (hK : G.K = K01 P) (hT : ∀ w : List Nat, w ≠ [] → w.length ≤ 8 → (∀ c ∈ w, c ∈ stock) → FnIsT G 100 64 (.ref 50) [.str (patternF w)] (.str (transF w)))
include hK hT
set_option maxHeartbeats 1000000
theorem taken_is (hH : G.H₀.get? 64 = none) (w : List Nat) (hne : w ≠ []) (hw : w.length ≤ 8) (hs : ∀ c ∈ w, c ∈ stock) (pr : List Nat) (hpr : pr.length = 2) : FnIsT G 120 64 (.ref 259) [.str (patternF w), .str pr] (.list (dstrs (takenF w pr))) := by
  refine fnT_K hK [("pattern", .str (patternF w)), ("pair", .str pr)] rfl rfl rfl ?_ rfl rfl rfl rfl rfl rfl rfl rfl ?_ hH
  · intro vs hv; obtain ⟨a, b, rfl⟩ := len2 hv; kernel_rfl
  intro X L
  refine ex_assignT (d := .str w) (by kernel_rfl) rfl (evT_around (f := 254) (d₁ := .str (transF w)) ?_ ?_ (evT_call (a := 64) (f := 50) (ds := [.str (patternF w)]) ?_ ?_ ?_ rfl ((hT w hne hw hs).le (by decide)) (List.mem_cons_self ..) rfl) rfl ((signs_is hK w (by omega) hs).le (by decide)) rfl) ?_
  · repeat' (walk_at "one")
  · rw [hK]; rfl
  · repeat' (walk_at "one")
  · rw [hK]; rfl
  · repeat' (walk_at "one")
  refine ex_assign (d := .list (drows (rowsF w pr 0))) (by kernel_rfl) rfl (ev_list (evAll_cons (by intro _ _ h; cases h) (ev_tup (evAll_cons (by intro _ _ h; cases h) (ev_litE rfl) (evAll_cons (by intro _ _ h; cases h) ev_int evAll_nil)) (by decide)) evAll_nil) (small (by simp [drows, rowsF]))) ?_
  refine ex_forN (ds := zs 0 6) (by kernel_rfl) (src_of (ev_callT (d := .rng 0 6) ?_ ?_ rfl fn_range1 rfl) (iter_rng rfl)) (fun i => [("rows", .list (drows (rowsF w pr i))), ("held", .str w), ("pair", .str pr)]) (fun _ => [(64, pit)]) ?_ (OSub.refl _) (fun _ => rfl) ?_ ?_
  · repeat' (walk_at "one")
  · repeat' (walk_at "one")
  · walk_at "subs"
  · intro i d hd Y
    have hi : i < 6 := by have := (List.getElem?_eq_some_iff.mp hd).1; simpa [zs] using this
    refine ex_comp (ds := drows (rowsF w pr i)) (ρc := [("held", .str w), ("pair", .str pr)]) (out := drows (rowsF w pr (i + 1))) (by kernel_rfl) rfl (src_of ?_ iter_list) (fun _ => rfl) rfl (scopeOk_kind rfl) (scopeOk_names rfl) (scopeOk_cell rfl) ?_ (fun C da => ?_) ?_ ?_
    · repeat' (walk_at "one")
    · walk_at "fsubs"
    · have e : drows (rowsF w pr (i + 1)) = (drows (rowsF w pr i)).flatMap fun d => (signs pr).map fun e => D.tup [.str (d.fst.s ++ e.s), .int (nextF w d.snd.i.toNat (e.s.headD 0))] := by
        simp only [drows, signs, rowsF, List.map_flatMap, List.flatMap_map, List.map_map]; rfl
      rw [e]
      refine loops_ptwo D.fst D.snd (fun _ => signs pr) (fun d e => D.tup [.str (d.fst.s ++ e.s), .int (nextF w d.snd.i.toNat (e.s.headD 0))]) rfl rfl rfl (by kernel_rfl) (by kernel_rfl) rfl rfl rfl (fun _ => rfl) (fun d hd => ?_) (fun d hd done => src_of ?_ iter_str) (fun d hd e he done => ?_)
      · obtain ⟨r, hr, rfl⟩ := mem_drows hd; exact unp_tup
      · repeat' (walk_at "one")
      · obtain ⟨r, hr, rfl⟩ := mem_drows hd
        obtain ⟨c, hc, rfl⟩ := mem_signs he
        obtain ⟨h1, h2⟩ := rowsF_ok w pr i r hr
        show Ev G _ _ [("sign", .str [c]), ("place", .int r.2), ("word", .str r.1), ("held", .str w), ("pair", .str pr)] _ _ (.tup [.str (r.1 ++ [c]), .int (nextF w r.2 c)])
        refine ev_tup (evAll_cons (by intro _ _ h; cases h) (ev_binop ?_ ?_ (bin_cat' (by rw [h1]; simp; omega))) (evAll_cons (by intro _ _ h; cases h) (ev_if (c := (w.drop r.2).take 1 == [c]) ?_ (fun h => ?_) (fun h => ?_)) evAll_nil)) (by simp; decide)
        · repeat' (walk_at "one")
        · repeat' (walk_at "one")
        · refine tst_cmp (n := 111) rfl (ev_eq (ev_cut_str (i := some (r.2 : Int)) (j := some ((r.2 : Int) + 1)) (l := w) ?_ (evp_some ?_) (evp_some ?_) (small (by omega))) (congrArg D.str (cut_one w r.2 h2))) ?_ cmp_eq_str
          all_goals (repeat' (walk_at "one"))
        · have : nextF w r.2 c = r.2 + 1 := by unfold nextF; rw [if_pos h]
          rw [this]
          show Ev _ _ _ _ _ _ (.int ((r.2 : Int) + 1))
          repeat' (walk_at "one")
        · have : nextF w r.2 c = r.2 := by unfold nextF; rw [if_neg (by simp [h])]
          rw [this]
          repeat' (walk_at "one")
    · refine small ?_
      rw [drows, List.length_map, rowsF_card, hpr]
      exact Nat.le_trans (Nat.pow_le_pow_right (by decide) (show i + 1 ≤ 6 by omega)) (by decide)
    · refine ex_nil (ex_turn_end ?_ (OSub.refl _))
      walk_at "subs"
  · rw [show (zs 0 6).length = 6 from rfl]
    have e : dstrs (takenF w pr) = (drows (rowsF w pr 6)).flatMap fun d => if d.snd.i == (w.length : Int) then [D.str d.fst.s] else [] := by
      rw [dstrs, takenF, List.map_flatMap, drows, List.flatMap_map]
      congr 1
      funext r
      show List.map D.str (if (r.2 == w.length) = true then [r.1] else []) = if (((r.2 : Nat) : Int) == (w.length : Int)) = true then [D.str r.1] else []
      by_cases h : (r.2 == w.length) = true
      · rw [if_pos h, if_pos (by simp at h; simp [h])]; rfl
      · rw [if_neg h, if_neg (by simp at h; simp; omega)]; rfl
    refine ex_ret (d := .list (dstrs (takenF w pr))) ?_ ⟨rfl, List.mem_cons_self ..⟩
    refine ev_comp (ds := drows (rowsF w pr 6)) (ρc := [("held", .str w)]) (src_of ?_ iter_list) (fun _ => rfl) rfl (scopeOk_kind rfl) (scopeOk_names rfl) (scopeOk_cell rfl) ?_ (fun C da => ?_) ?_
    · repeat' (walk_at "one")
    · walk_at "fsubs"
    · rw [e]
      refine loops_pfilter (fun d => d.snd.i == (w.length : Int)) D.fst D.snd (fun d => D.str d.fst.s) rfl rfl rfl rfl (fun d hd => ?_) (fun d hd done => ?_) (fun d hd h done => ?_)
      · obtain ⟨r, hr, rfl⟩ := mem_drows hd; exact unp_tup
      · obtain ⟨r, hr, rfl⟩ := mem_drows hd
        show Tst G _ _ [("place", .int r.2), ("word", .str r.1), ("held", .str w)] _ _ (((r.2 : Nat) : Int) == (w.length : Int))
        refine tst_cmp (n := 111) rfl ?_ (ev_callB (ds := [.str w]) ?_ ?_ rfl (fn_len_str (by omega)) rfl) cmp_eq_int
        all_goals (repeat' (walk_at "one"))
      · obtain ⟨r, hr, rfl⟩ := mem_drows hd
        show Ev G _ _ [("place", .int r.2), ("word", .str r.1), ("held", .str w)] _ _ (.str r.1)
        repeat' (walk_at "one")
    · refine small ?_
      rw [e]
      have h2 := ifs_len (fun d => d.snd.i == (w.length : Int)) (fun d => D.str d.fst.s) (drows (rowsF w pr 6))
      have h3 : (drows (rowsF w pr 6)).length = 64 := by rw [drows, List.length_map, rowsF_card, hpr]
      omega
end
theorem weightF_bound (w x : List Nat) (hw : w.length ≤ 100) : 0 ≤ weightF w x ∧ weightF w x ≤ 10200 := by
  have h1 : ∀ i ∈ placesF x w, 0 ≤ i ∧ i ≤ 101 := fun i hi => by
    obtain ⟨p, hp, h'⟩ := List.mem_flatMap.mp hi
    have hp2 : p.2 < w.length := by
      have := List.mem_zipIdx hp
      omega
    split at h'
    · rw [List.mem_singleton.mp h']; omega
    · cases h'
  have h2 : (placesF x w).length ≤ 100 := by
    have := ifs_len (fun p : Nat × Nat => [p.1] == x) (fun p => (p.2 : Int) + 1) w.zipIdx
    rw [List.length_zipIdx] at this
    exact Nat.le_trans this hw
  have h3 : ∀ l : List Int, (∀ i ∈ l, 0 ≤ i ∧ i ≤ 101) → 0 ≤ l.sum ∧ l.sum ≤ 101 * l.length := by
    intro l
    induction l with
    | nil => intro _; simp
    | cons a r ih =>
      intro h
      have ha := h a (List.mem_cons_self ..)
      have hr := ih fun i hi => h i (List.mem_cons_of_mem _ hi)
      rw [List.sum_cons, List.length_cons]; push_cast; omega
  have := h3 _ h1
  unfold weightF
  omega
noncomputable def sevenF (least : Int) : List Int := (List.range 7).map fun (i : Nat) => least + i
theorem takenF_len (w pr : List Nat) : ∀ v ∈ takenF w pr, v.length = 6 := fun v hv => by
  obtain ⟨r, hr, h'⟩ := List.mem_flatMap.mp hv
  split at h'
  · rw [List.mem_singleton.mp h']; exact (rowsF_ok w pr 6 r hr).1
  · cases h'
theorem rowsF_signs (held pr : List Nat) : ∀ k, ∀ r ∈ rowsF held pr k, ∀ c ∈ r.1, c ∈ pr
  | 0, r, h, c, hc => by rw [List.mem_singleton.mp h] at hc; cases hc
  | k + 1, r, h, c, hc => by
    obtain ⟨q, hq, h'⟩ := List.mem_flatMap.mp h
    obtain ⟨e, he, rfl⟩ := List.mem_map.mp h'
    rcases List.mem_append.mp hc with h1 | h1
    · exact rowsF_signs held pr k q hq c h1
    · rw [List.mem_singleton.mp h1]; exact he
theorem takenF_signs (w pr : List Nat) : ∀ v ∈ takenF w pr, ∀ c ∈ v, c ∈ pr := fun v hv => by
  obtain ⟨r, hr, h'⟩ := List.mem_flatMap.mp hv
  split at h'
  · rw [List.mem_singleton.mp h']; exact rowsF_signs w pr 6 r hr
  · cases h'
theorem zip_weights (T : List (List Nat)) (g : List Nat → Int) (f : Int) : (zipped (dstrs T) (dints (T.map g))).flatMap (fun d => if d.snd.i % 7 == f then [D.str d.fst.s] else []) = dstrs (T.filter fun v => g v % 7 == f) := by
  induction T with
  | nil => rfl
  | cons v T ih =>
    show (if g v % 7 == f then [D.str v] else []) ++ (zipped (dstrs T) (dints (T.map g))).flatMap _ = _
    rw [ih, List.filter_cons]
    by_cases h : (g v % 7 == f) = true
    · rw [if_pos h, if_pos h]; rfl
    · rw [if_neg h, if_neg h]; rfl
theorem stock_small : ∀ c ∈ stock, c < 0x110000 := by decide
section
variable {P : Params} {G : Gd} (hK : G.K = K01 P) (hT : ∀ w : List Nat, w ≠ [] → w.length ≤ 8 → (∀ c ∈ w, c ∈ stock) → FnIsT G 100 64 (.ref 50) [.str (patternF w)] (.str (transF w)))
include hK hT
set_option maxHeartbeats 1000000
theorem mended_is (hH : G.H₀.get? 64 = none) (w : List Nat) (f : Int) (a b : Nat) (hw : w.length = 5) (hs : ∀ c ∈ w, c ∈ stock) (hab : a ∈ stock ∧ b ∈ stock)
    (h1 : (sevenF (weightF w [b])).Perm ((takenF w [a, b]).map fun v => weightF v [b]))
    (h2 : (takenF w [a, b]).filter (fun v => weightF v [b] % 7 == f) = [laidF w a b ((f - weightF w [b]) % 7)])
    (h3 : (f - weightF w [b]) % 7 - w.count b - 1 ≤ w.count a) : FnIsT G 140 64 (.ref 271) [.str w, .int f, .str [a, b]] (.str (laidF w a b ((f - weightF w [b]) % 7))) := by
  refine fnT_K hK [("word", .str w), ("figure", .int f), ("pair", .str [a, b])] rfl rfl rfl ?_ rfl rfl rfl rfl rfl rfl rfl rfl ?_ hH
  · intro vs hv; obtain ⟨a, b, c, rfl⟩ := len3 hv; kernel_rfl
  intro X L
  have ht7 : (takenF w [a, b]).length = 7 := by have := h1.length_eq; simpa [sevenF] using this.symm
  have hwb := weightF_bound w [b] (by omega)
  refine ex_assignT (d := .list (dstrs (takenF w [a, b]))) (by kernel_rfl) rfl (evT_call (a := 64) (f := 259) (ds := [.str (patternF w), .str [a, b]]) ?_ ?_ (evAll_cons (by intro _ _ h; cases h) (ev_call (f := 240) (ds := [.str w]) ?_ ?_ ?_ rfl ((pattern_is hK w (by omega)).le (by decide)) rfl) ?_) rfl ((taken_is hK hT hH w (by intro q; rw [q] at hw; cases hw) (by omega) hs [a, b] rfl).le (by decide)) (List.mem_cons_self ..) rfl) ?_
  · repeat' (walk_at "one")
  · rw [hK]; rfl
  · repeat' (walk_at "one")
  · rw [hK]; rfl
  · repeat' (walk_at "one")
  · repeat' (walk_at "one")
  refine ex_comp (ds := dstrs (takenF w [a, b])) (ρc := [("pair", .str [a, b])]) (out := dints ((takenF w [a, b]).map fun v => weightF v [b])) (by kernel_rfl) rfl (src_of ?_ iter_list) (fun _ => rfl) rfl (scopeOk_kind rfl) (scopeOk_names rfl) (scopeOk_cell rfl) ?_ (fun C da => ?_) ?_ ?_
  · repeat' (walk_at "one")
  · walk_at "fsubs"
  · have e : dints ((takenF w [a, b]).map fun v => weightF v [b]) = (dstrs (takenF w [a, b])).map fun d => D.int (weightF d.s [b]) := by
      simp only [dints, dstrs, List.map_map]; rfl
    rw [e]
    refine loops_map _ rfl rfl fun d hd done => ?_
    obtain ⟨v, hv, rfl⟩ := mem_dstrs hd
    have hv6 := takenF_len w [a, b] v hv
    refine ev_call (f := 230) (ds := [.str v, .str [b]]) ?_ ?_ (evAll_cons (by intro _ _ h; cases h) ?_ (evAll_cons (by intro _ _ h; cases h) (ev_eq (ev_item rfl ?_ ev_int (item_str0 (l := [a, b]) (by simp) (by simp))) rfl) evAll_nil)) rfl ((weight_is hK v [b] (by omega)).le (by decide)) rfl
    · repeat' (walk_at "one")
    · rw [hK]; rfl
    · repeat' (walk_at "one")
    · repeat' (walk_at "one")
  · refine small (by rw [dints, List.length_map, List.length_map]; omega)
  refine ex_assign (d := .int (weightF w [b])) (by kernel_rfl) rfl (ev_call (f := 230) (ds := [.str w, .str [b]]) ?_ ?_ (evAll_cons (by intro _ _ h; cases h) ?_ (evAll_cons (by intro _ _ h; cases h) (ev_eq (ev_item rfl ?_ ev_int (item_str0 (l := [a, b]) (by simp) (by simp))) rfl) evAll_nil)) rfl ((weight_is hK w [b] (by omega)).le (by decide)) rfl) ?_
  · repeat' (walk_at "one")
  · rw [hK]; rfl
  · repeat' (walk_at "one")
  · repeat' (walk_at "one")
  have seven_small : ∀ i ∈ sevenF (weightF w [b]), i.natAbs < 2 ^ 32 := fun i hi => by
    obtain ⟨k, hk, rfl⟩ := List.mem_map.mp hi
    have := List.mem_range.mp hk
    omega
  refine ex_if (c := false) ?_ (fun h => by cases h) (fun _ => ex_nil ?_)
  · refine tst_cmp (n := 131) rfl (d₁ := .list (dints (sevenF (weightF w [b])))) (d₂ := .list (dints (sevenF (weightF w [b])))) (ev_callB (ds := [.list (dints ((takenF w [a, b]).map fun v => weightF v [b]))]) ?_ ?_ rfl (fn_sorted (by rw [List.length_map]; omega) h1 ?_) rfl) (ev_callT (T := "list") (ds := [.rng (weightF w [b]) (weightF w [b] + 7)]) ?_ (evAll_cons (by intro _ _ h; cases h) (ev_callT (ds := [.int (weightF w [b]), .int (weightF w [b] + 7)]) ?_ ?_ rfl fn_range2 rfl) evAll_nil) rfl ?_ rfl) ?_
    · repeat' (walk_at "one")
    · repeat' (walk_at "one")
    · unfold sevenF; simp [List.range, List.range.loop]; omega
    · repeat' (walk_at "one")
    · repeat' (walk_at "one")
    · repeat' (walk_at "one")
    · have e : (weightF w [b] + 7 - weightF w [b]).toNat = 7 := by omega
      have := fn_list_range (G := G) (n := 139) (a := weightF w [b]) (b := weightF w [b] + 7) ?_ (by rw [e]; decide)
      · rw [e] at this
        have e2 : zs (weightF w [b]) 7 = dints (sevenF (weightF w [b])) := by simp only [zs, dints, sevenF, List.map_map]; rfl
        rw [e2] at this; exact this
      · exact small_one (by omega) (by omega) (by omega) (by omega)
    · have := cmp_ne_ints seven_small seven_small (by simp [sevenF]) (by simp [sevenF])
      simpa using this
  refine ex_comp (ds := zipped (dstrs (takenF w [a, b])) (dints ((takenF w [a, b]).map fun v => weightF v [b]))) (ρc := [("figure", .int f)]) (out := dstrs ((takenF w [a, b]).filter fun v => weightF v [b] % 7 == f)) (by kernel_rfl) rfl (src_mk rfl rfl ?_ ?_ mk_zip_lists) (fun _ => rfl) rfl (scopeOk_kind rfl) (scopeOk_names rfl) (scopeOk_cell rfl) ?_ (fun C da => ?_) ?_ ?_
  · repeat' (walk_at "one")
  · repeat' (walk_at "one")
  · walk_at "fsubs"
  · rw [← zip_weights]
    refine loops_pfilter (fun d => d.snd.i % 7 == f) D.fst D.snd (fun d => D.str d.fst.s) rfl rfl rfl rfl (fun d hd => ?_) (fun d hd done => ?_) (fun d hd h done => ?_)
    · obtain ⟨x, _, y, _, rfl⟩ := mem_zipped hd; exact unp_tup
    · obtain ⟨x, hx, y, hy, rfl⟩ := mem_zipped hd
      obtain ⟨v, _, rfl⟩ := mem_dstrs hx
      obtain ⟨i, _, rfl⟩ := mem_dints hy
      show Tst G _ _ [("weight", .int i), ("other", .str v), ("figure", .int f)] _ _ (i % 7 == f)
      repeat' (walk_at "one")
    · obtain ⟨x, hx, y, hy, rfl⟩ := mem_zipped hd
      obtain ⟨v, _, rfl⟩ := mem_dstrs hx
      show Ev G _ _ [("weight", y), ("other", .str v), ("figure", .int f)] _ _ (.str v)
      repeat' (walk_at "one")
  · refine small ?_
    rw [dstrs, List.length_map]
    exact Nat.le_trans (List.length_filter_le _ _) (by omega)
  refine ex_assign (d := .str (laidF w a b ((f - weightF w [b]) % 7))) (by kernel_rfl) rfl (ev_call (f := 266) (ds := [.str w, .str [a, b], .int ((f - weightF w [b]) % 7)]) ?_ ?_ ?_ rfl ((laid_is hK w a b _ (by omega) h3).le (by decide)) rfl) ?_
  · repeat' (walk_at "one")
  · rw [hK]; rfl
  · repeat' (walk_at "one")
  have hmem : laidF w a b ((f - weightF w [b]) % 7) ∈ takenF w [a, b] := by
    have : laidF w a b ((f - weightF w [b]) % 7) ∈ (takenF w [a, b]).filter (fun v => weightF v [b] % 7 == f) := by rw [h2]; exact List.mem_singleton.mpr rfl
    exact (List.mem_filter.mp this).1
  have hfit : ∀ l ∈ [laidF w a b ((f - weightF w [b]) % 7)], l.length ≤ 1000 ∧ ∀ c ∈ l, c < 0x110000 := fun l hl => by
    rw [List.mem_singleton.mp hl]
    refine ⟨by rw [takenF_len w [a, b] _ hmem]; decide, fun c hc => stock_small c ?_⟩
    have := takenF_signs w [a, b] _ hmem c hc
    simp only [List.mem_cons, List.not_mem_nil, or_false] at this
    rcases this with rfl | rfl
    · exact hab.1
    · exact hab.2
  rw [h2]
  refine ex_ret (d := .str (laidF w a b ((f - weightF w [b]) % 7))) (ev_if (c := true) ?_ (fun _ => ?_) (fun h => by cases h)) ⟨rfl, List.mem_cons_self ..⟩
  · refine tst_cmp (n := 131) rfl (d₁ := .list (dstrs [laidF w a b ((f - weightF w [b]) % 7)])) (d₂ := .list (dstrs [laidF w a b ((f - weightF w [b]) % 7)])) ?_ (ev_list ?_ (small (by simp [dstrs]))) ?_
    · repeat' (walk_at "one")
    · show EvAll G _ _ _ _ _ [.str (laidF w a b ((f - weightF w [b]) % 7))]
      repeat' (walk_at "one")
    · have := cmp_eq_strs hfit hfit (by simp) (by simp)
      simpa using this
  · repeat' (walk_at "one")
end
noncomputable def B64 : List UInt8 := (S "ABCDEFGHIJKLMNOPQRSTUVWXYZabcdefghijklmnopqrstuvwxyz0123456789+/").map Nat.toUInt8
noncomputable def b64I (v : Int) : Int := ((B64.getD v.toNat 0).toNat : Int)
noncomputable def b64valF (c : Int) : Int := if 65 ≤ c ∧ c ≤ 90 then c - 65 else if 97 ≤ c ∧ c ≤ 122 then c - 71 else if 48 ≤ c ∧ c ≤ 57 then c + 4 else if c = 43 then 62 else if c = 47 then 63 else 64
noncomputable def emitAt (v : Int) (k : Nat) : Int := b64I (v / (2 ^ k : Nat) % 64)
noncomputable def emitF (v : Int) (lb : Nat) : List Int := if 12 ≤ lb then [emitAt v (lb - 6), emitAt v (lb - 12)] else if 6 ≤ lb then [emitAt v (lb - 6)] else []
noncomputable def stepF (st : Int × Nat × List Int) (b : UInt8) : Int × Nat × List Int := ((st.1 * 256 + b.toNat) % 65536, (st.2.1 + 8) % 6, st.2.2 ++ emitF ((st.1 * 256 + b.toNat) % 65536) (st.2.1 + 8))
noncomputable def stF (l : List UInt8) : Int × Nat × List Int := l.foldl stepF (0, 0, [])
theorem stF_ok (l : List UInt8) : 0 ≤ (stF l).1 ∧ (stF l).1 < 65536 ∧ (stF l).2.1 < 6 ∧ (∀ i ∈ (stF l).2.2, 0 ≤ i ∧ i < 256) ∧ (stF l).2.2.length ≤ l.length * 2 := by
  have key : ∀ (l : List UInt8) (st : Int × Nat × List Int), (0 ≤ st.1 ∧ st.1 < 65536 ∧ st.2.1 < 6 ∧ (∀ i ∈ st.2.2, 0 ≤ i ∧ i < 256)) → (0 ≤ (l.foldl stepF st).1 ∧ (l.foldl stepF st).1 < 65536 ∧ (l.foldl stepF st).2.1 < 6 ∧ (∀ i ∈ (l.foldl stepF st).2.2, 0 ≤ i ∧ i < 256) ∧ (l.foldl stepF st).2.2.length ≤ st.2.2.length + l.length * 2) := by
    intro l
    induction l with
    | nil => intro st h; exact ⟨h.1, h.2.1, h.2.2.1, h.2.2.2, by simp⟩
    | cons b l ih =>
      intro st h
      have hemit : ∀ v k, ∀ i ∈ emitF v k, 0 ≤ i ∧ i < 256 := fun v k i hi => by
        have hb : ∀ v, 0 ≤ b64I v ∧ b64I v < 256 := fun v => by
          unfold b64I
          have := (B64.getD v.toNat 0).toNat_lt
          omega
        unfold emitF at hi
        split at hi
        · simp only [List.mem_cons, List.not_mem_nil, or_false] at hi
          rcases hi with rfl | rfl <;> exact hb _
        · split at hi
          · rw [List.mem_singleton.mp hi]; exact hb _
          · cases hi
      have hlen : ∀ v k, (emitF v k).length ≤ 2 := fun v k => by unfold emitF; split; simp; split <;> simp
      have := ih (stepF st b) ⟨by unfold stepF; dsimp only; omega, by unfold stepF; dsimp only; omega, by unfold stepF; dsimp only; omega, fun i hi => by
        rcases List.mem_append.mp hi with hi | hi
        · exact h.2.2.2 i hi
        · exact hemit _ _ i hi⟩
      refine ⟨this.1, this.2.1, this.2.2.1, this.2.2.2.1, Nat.le_trans this.2.2.2.2 ?_⟩
      have h1 : (stepF st b).2.2.length ≤ st.2.2.length + 2 := by
        unfold stepF; dsimp only
        rw [List.length_append]
        have := hlen ((st.1 * 256 + b.toNat) % 65536) (st.2.1 + 8)
        omega
      rw [List.length_cons]; omega
  have := key l (0, 0, []) ⟨by decide, by decide, by decide, fun i hi => by cases hi⟩
  simpa [stF] using this
theorem stF_succ (l : List UInt8) (i : Nat) (b : UInt8) (h : l[i]? = some b) : stF (l.take (i + 1)) = stepF (stF (l.take i)) b := by
  unfold stF
  rw [List.take_add_one, h]
  simp [List.foldl_append]
section
variable {P : Params} {G : Gd} (hK : G.K = K01 P)
include hK
set_option maxHeartbeats 1000000
theorem b64value_is (c : Int) : FnIs G 30 (.ref 125) [.int c] (.int (b64valF c)) := by
  refine fn_K hK [("c", .int c)] rfl rfl rfl ?_ rfl rfl rfl rfl rfl rfl rfl rfl ?_
  · intro vs hv; obtain ⟨a, rfl⟩ := len1 hv; kernel_rfl
  intro X L
  refine ex_if (c := decide (65 ≤ c) && decide (c ≤ 90)) (tst_cmp2 (n := 21) rfl ev_int ?_ ev_int cmp_le_int cmp_le_int) (fun h => ?_) (fun h => ex_nil ?_)
  · repeat' (walk_at "one")
  · refine ex_ret (d := .int (c - 65)) (ev_binop ?_ ev_int bin_sub) ?_
    · repeat' (walk_at "one")
    · have : 65 ≤ c ∧ c ≤ 90 := by simpa using h
      show D.int (c - 65) = D.int (b64valF c)
      unfold b64valF; rw [if_pos this]
  have h1 : ¬ (65 ≤ c ∧ c ≤ 90) := by simpa using h
  refine ex_if (c := decide (97 ≤ c) && decide (c ≤ 122)) (tst_cmp2 (n := 21) rfl ev_int ?_ ev_int cmp_le_int cmp_le_int) (fun h => ?_) (fun h => ex_nil ?_)
  · repeat' (walk_at "one")
  · refine ex_ret (d := .int (c - 71)) (ev_binop ?_ ev_int bin_sub) ?_
    · repeat' (walk_at "one")
    · have : 97 ≤ c ∧ c ≤ 122 := by simpa using h
      show D.int (c - 71) = D.int (b64valF c)
      unfold b64valF; rw [if_neg h1, if_pos this]
  have h2 : ¬ (97 ≤ c ∧ c ≤ 122) := by simpa using h
  refine ex_if (c := decide (48 ≤ c) && decide (c ≤ 57)) (tst_cmp2 (n := 21) rfl ev_int ?_ ev_int cmp_le_int cmp_le_int) (fun h => ?_) (fun h => ex_nil ?_)
  · repeat' (walk_at "one")
  · refine ex_ret (d := .int (c + 4)) (ev_binop ?_ ev_int bin_add) ?_
    · repeat' (walk_at "one")
    · have : 48 ≤ c ∧ c ≤ 57 := by simpa using h
      show D.int (c + 4) = D.int (b64valF c)
      unfold b64valF; rw [if_neg h1, if_neg h2, if_pos this]
  have h3 : ¬ (48 ≤ c ∧ c ≤ 57) := by simpa using h
  refine ex_if (c := c == 43) ?_ (fun h => ?_) (fun h => ex_nil ?_)
  · repeat' (walk_at "one")
  · refine ex_ret (d := .int 62) ev_int ?_
    have : c = 43 := by simpa using h
    show D.int 62 = D.int (b64valF c)
    unfold b64valF; rw [if_neg h1, if_neg h2, if_neg h3, if_pos this]
  have h4 : ¬ c = 43 := by simpa using h
  refine ex_if (c := c == 47) ?_ (fun h => ?_) (fun h => ex_nil ?_)
  · repeat' (walk_at "one")
  · refine ex_ret (d := .int 63) ev_int ?_
    have : c = 47 := by simpa using h
    show D.int 63 = D.int (b64valF c)
    unfold b64valF; rw [if_neg h1, if_neg h2, if_neg h3, if_neg h4, if_pos this]
  have h5 : ¬ c = 47 := by simpa using h
  refine ex_ret (d := .int 64) ev_int ?_
  show D.int 64 = D.int (b64valF c)
  unfold b64valF; rw [if_neg h1, if_neg h2, if_neg h3, if_neg h4, if_neg h5]
theorem buffer_is (l : List UInt8) : FnIs G 30 (.ref 111) [.bytes l] (.bytes l) := by
  refine fn_K hK [("data", .bytes l)] rfl rfl rfl ?_ rfl rfl rfl rfl rfl rfl rfl rfl ?_
  · intro vs hv; obtain ⟨a, rfl⟩ := len1 hv; kernel_rfl
  intro X L
  refine ex_assign (d := .raw (.type "bytes")) (by kernel_rfl) rfl (ev_callT (T := "type") (ds := [.bytes l]) ?_ ?_ rfl fn_type_bytes rfl) ?_
  · repeat' (walk_at "one")
  · repeat' (walk_at "one")
  refine ex_if (c := true) (tst_cmp (n := 21) rfl (d₁ := .raw (.type "bytes")) (d₂ := .raw (.type "bytes")) ?_ ?_ cmp_is_type) (fun h => ?_) (fun h => by cases h)
  · repeat' (walk_at "one")
  · repeat' (walk_at "one")
  · refine ex_ret (d := .bytes l) ?_ rfl
    repeat' (walk_at "one")
theorem ascii_buffer_is (l : List UInt8) : FnIs G 30 (.ref 104) [.bytes l] (.bytes l) := by
  refine fn_K hK [("data", .bytes l)] rfl rfl rfl ?_ rfl rfl rfl rfl rfl rfl rfl rfl ?_
  · intro vs hv; obtain ⟨a, rfl⟩ := len1 hv; kernel_rfl
  intro X L
  refine ex_assign (d := .raw (.type "bytes")) (by kernel_rfl) rfl (ev_callT (T := "type") (ds := [.bytes l]) ?_ ?_ rfl fn_type_bytes rfl) ?_
  · repeat' (walk_at "one")
  · repeat' (walk_at "one")
  refine ex_if (c := false) (tst_cmp (n := 21) rfl (d₁ := .raw (.type "bytes")) (d₂ := .raw (.type "str")) ?_ ?_ cmp_is_type) (fun h => by cases h) (fun h => ex_nil ?_)
  · repeat' (walk_at "one")
  · repeat' (walk_at "one")
  refine ex_if (c := true) (tst_cmp (n := 21) rfl (d₁ := .raw (.type "bytes")) (d₂ := .raw (.type "bytes")) ?_ ?_ cmp_is_type) (fun h => ?_) (fun h => by cases h)
  · repeat' (walk_at "one")
  · repeat' (walk_at "one")
  · refine ex_ret (d := .bytes l) ?_ rfl
    repeat' (walk_at "one")
theorem truth_is (b : Bool) : FnIs G 40 (.ref 118) [.bool b] (.bool b) := by
  refine fn_K hK [("x", .bool b)] rfl rfl rfl ?_ rfl rfl rfl rfl rfl rfl rfl rfl ?_
  · intro vs hv; obtain ⟨a, rfl⟩ := len1 hv; kernel_rfl
  intro X L
  refine ex_assign (d := .raw (.type "bool")) (by kernel_rfl) rfl (ev_callT (T := "type") (ds := [.bool b]) ?_ ?_ rfl fn_type_bool rfl) ?_
  · repeat' (walk_at "one")
  · repeat' (walk_at "one")
  refine ex_if (c := true) ?_ (fun h => ?_) (fun h => by cases h)
  · refine tst_or_no (tst_cmp (n := 31) rfl (d₁ := .bool b) (d₂ := .none) ?_ ev_none (cmp_is_none rfl)) (tst_or_yes (tst_cmp (n := 31) rfl (d₁ := .raw (.type "bool")) (d₂ := .raw (.type "bool")) ?_ ?_ cmp_is_type))
    all_goals (repeat' (walk_at "one"))
  · refine ex_ret (d := .bool b) (ev_if (c := b) ?_ (fun h => ?_) (fun h => ?_)) rfl
    · repeat' (walk_at "one")
    · rw [h]; exact ev_bool
    · rw [h]; exact ev_bool
end
section
variable {P : Params} {G : Gd} (hK : G.K = K01 P)
include hK
set_option maxHeartbeats 1000000
theorem b2a_is (l : List UInt8) (hl : l.length ≤ 100) (h0 : (stF l).2.1 = 0) : FnA G 60 (.ref 141) [.bytes l] ["newline"] [.bool false] (.bytes ((stF l).2.2.map fun m => m.toNat.toUInt8)) := by
  refine fnA_K hK [("data", .bytes l), ("newline", .bool false)] (fun vs ks => vs ++ ks) rfl rfl rfl ?_ ?_ rfl rfl rfl rfl rfl rfl rfl rfl ?_
  · intro S vs ks hv hk; obtain ⟨a, rfl⟩ := len1 hv; obtain ⟨b, rfl⟩ := len1 hk; kernel_rfl
  · intro X h vs ks r r'; exact r.append r'
  intro X L
  refine ex_assign (d := .bytes l) (by kernel_rfl) rfl (ev_call (f := 111) (ds := [.bytes l]) ?_ ?_ ?_ rfl ((buffer_is hK l).le (by decide)) rfl) ?_
  · repeat' (walk_at "one")
  · rw [hK]; rfl
  · repeat' (walk_at "one")
  refine ex_assign (d := .bool false) (by kernel_rfl) rfl (ev_call (f := 118) (ds := [.bool false]) ?_ ?_ ?_ rfl ((truth_is hK false).le (by decide)) rfl) ?_
  · repeat' (walk_at "one")
  · rw [hK]; rfl
  · repeat' (walk_at "one")
  obtain ⟨tB, hB⟩ : ∃ t, nsIn (K01 P) mainGlobals (Str.ofString "_B64") = some (some (.bytes B64.toArray t)) := ⟨_, rfl⟩
  refine ex_newlist (by kernel_rfl) rfl fun a ha => ?_
  refine ex_assign (d := .int 0) (by kernel_rfl) rfl ev_int (ex_assign (d := .int 0) (by kernel_rfl) rfl ev_int ?_)
  refine ex_forN (ds := byteInts l) (by kernel_rfl) (src_of (d := .bytes l) ?_ iter_bytes) (fun i => [("leftchar", .int (stF (l.take i)).1), ("leftbits", .int (stF (l.take i)).2.1), ("out", own a), ("newline", .bool false)]) (fun i => [(a, .list (dints (stF (l.take i)).2.2))]) ?_ (OSub.refl _) (fun _ => rfl) ?_ ?_
  · repeat' (walk_at "one")
  · walk_at "subs"
    all_goals (first | rfl | (rw [List.take_zero]; rfl))
  · intro i d hd Y
    have hd' : ∃ b, l[i]? = some b ∧ d = .int b.toNat := by
      simp only [byteInts, List.getElem?_map] at hd
      cases e : l[i]? with
      | none => rw [e] at hd; cases hd
      | some b => rw [e] at hd; cases hd; exact ⟨b, rfl, rfl⟩
    obtain ⟨b, hb, rfl⟩ := hd'
    rw [stF_succ l i b hb]
    obtain ⟨k1, k2, k3, k4, k5⟩ := stF_ok (l.take i)
    have hlen : (l.take i).length ≤ 100 := by rw [List.length_take]; omega
    generalize stF (l.take i) = st at k1 k2 k3 k4 k5
    obtain ⟨v, lb, out⟩ := st
    simp only at k1 k2 k3 k4 k5
    have hbn : (0 : Int) ≤ b.toNat ∧ (b.toNat : Int) < 256 := by have := b.toNat_lt; omega
    show Ex G _ _ [("b", .int b.toNat), ("leftchar", .int v), ("leftbits", .int lb), ("out", own a), ("newline", .bool false)] [(a, .list (dints out))] _ (Out.turn Y [("leftchar", .int ((v * 256 + b.toNat) % 65536)), ("leftbits", .int ((lb + 8) % 6 : Nat)), ("out", own a), ("newline", .bool false)] [(a, .list (dints (out ++ emitF ((v * 256 + b.toNat) % 65536) (lb + 8))))] _ _)
    refine ex_assign (d := .int ((v * 256 + b.toNat) % 65536)) (by kernel_rfl) rfl (ev_eq (d' := .int (Builtin.bitAnd (Builtin.bitOr (v * 2 ^ (8 : Int).toNat) b.toNat) 65535)) (ev_binop (ev_binop (ev_binop ?_ ev_int (bin_shl (by decide) (by decide) (by omega))) ?_ bin_or) ev_int bin_and) ?_) ?_
    · repeat' (walk_at "one")
    · repeat' (walk_at "one")
    · have e1 : v * 2 ^ (8 : Int).toNat = v * ((2 ^ 8 : Nat) : Int) := rfl
      rw [e1, or_low 8 k1 hbn, and_65535 (by omega)]; rfl
    have hv' : 0 ≤ (v * 256 + (b.toNat : Int)) % 65536 ∧ (v * 256 + (b.toNat : Int)) % 65536 < 65536 := by omega
    generalize (v * 256 + (b.toNat : Int)) % 65536 = u at hv' ⊢
    refine ex_assign (d := .int (lb + 8 : Nat)) (by kernel_rfl) rfl (ev_eq (d' := .int ((lb : Int) + 8)) (ev_binop ?_ ev_int bin_add) ?_) ?_
    · repeat' (walk_at "one")
    · push_cast; rfl
    refine ex_while (σ := Nat × List Int) (fun q => [("leftbits", .int q.1), ("leftchar", .int u), ("out", own a), ("newline", .bool false)]) (fun q => [(a, .list (dints q.2))]) (fun q => q.1 ≤ 13 ∧ q.1 % 6 = (lb + 8) % 6 ∧ q.2 ++ emitF u q.1 = out ++ emitF u (lb + 8) ∧ q.2.length ≤ 300) (fun q => q.1) (fun q => decide (6 ≤ q.1)) (lb + 8, out) ⟨by show lb + 8 ≤ 13; omega, rfl, rfl, by show out.length ≤ 300; omega⟩ ?_ (OSub.refl _) (fun _ => rfl) (fun q hq => ?_) (fun q hq hc => ?_) (fun q hq hc => ?_)
    · walk_at "subs"
      all_goals rfl
    · refine tstE (b := decide ((q.1 : Int) ≥ 6)) ?_ (by simp; omega)
      repeat' (walk_at "one")
    · have h6 : 6 ≤ q.1 := by simpa using hc
      obtain ⟨k, o⟩ := q
      obtain ⟨q1, q2, q3, q4⟩ := hq
      simp only at q1 q2 q3 q4 h6
      have hem : emitF u k = emitAt u (k - 6) :: emitF u (k - 6) := by
        unfold emitF
        by_cases h12 : 12 ≤ k
        · rw [if_pos h12, if_neg (by omega), if_pos (by omega), Nat.sub_sub]
        · rw [if_neg h12, if_pos h6, if_neg (by omega), if_neg (by omega)]
      refine ex_append (a := a) (ds := dints o) (d := .int (emitAt u (k - 6))) ?_ (OSet.head _) (evAll_cons (by intro _ _ h; cases h) (ev_eq (d' := .int ((B64.getD (Builtin.bitAnd (u.fdiv (2 ^ ((k : Int) - 6).toNat)) 63).toNat 0).toNat : Nat)) (ev_item rfl (ev_globB (l := B64) (t := tB) (by kernel_rfl) ?_ (by kernel_rfl)) (ev_binop (ev_binop ?_ (ev_binop ?_ ev_int bin_sub) (bin_shr (by omega))) ev_int bin_and) (item_bytes ?_ (by decide))) ?_) evAll_nil) rfl (small (by rw [dints, List.length_map]; omega)) rfl rfl rfl ?_
      · repeat' (walk_at "one")
      · rw [hK]; exact hB
      · repeat' (walk_at "one")
      · repeat' (walk_at "one")
      · have e1 : u.fdiv (2 ^ ((k : Int) - 6).toNat) = u / ((2 ^ (k - 6) : Nat) : Int) := by
          have : ((k : Int) - 6).toNat = k - 6 := by omega
          rw [this]; exact shr_nat _ hv'.1
        have h0 : 0 ≤ u / ((2 ^ (k - 6) : Nat) : Int) := Int.ediv_nonneg hv'.1 (Int.natCast_nonneg _)
        rw [e1, and_63 h0]
        have : ((64 : Nat) : Int) = 64 := rfl
        show 0 ≤ _ % 64 ∧ _ % 64 < ((64 : Nat) : Int)
        omega
      · have e1 : u.fdiv (2 ^ ((k : Int) - 6).toNat) = u / ((2 ^ (k - 6) : Nat) : Int) := by
          have : ((k : Int) - 6).toNat = k - 6 := by omega
          rw [this]; exact shr_nat _ hv'.1
        have h0 : 0 ≤ u / ((2 ^ (k - 6) : Nat) : Int) := Int.ediv_nonneg hv'.1 (Int.natCast_nonneg _)
        rw [e1, and_63 h0]; rfl
      · refine ex_assign (d := .int (k - 6 : Nat)) (by kernel_rfl) rfl (ev_eq (d' := .int ((k : Int) - 6)) (ev_binop ?_ ev_int bin_sub) (by congr 1; omega)) ?_
        · repeat' (walk_at "one")
        refine ex_nil (ex_end ⟨(k - 6, o ++ [emitAt u (k - 6)]), ⟨by show k - 6 ≤ 13; omega, by show (k - 6) % 6 = _; omega, ?_, ?_⟩, by show k - 6 < k; omega, ?_, ?_⟩)
        · rw [← q3, hem]; simp
        · show (o ++ [emitAt u (k - 6)]).length ≤ 300
          have hl2 := congrArg List.length q3
          rw [hem] at hl2
          simp only [List.length_append, List.length_cons, List.length_nil] at hl2 ⊢
          have : (emitF u (lb + 8)).length ≤ 2 := by unfold emitF; split; simp; split <;> simp
          omega
        · walk_at "subs"
        · have : dints (o ++ [emitAt u (k - 6)]) = dints o ++ [.int (emitAt u (k - 6))] := by simp [dints]
          rw [this]; exact OSub.refl _
    · obtain ⟨k, o⟩ := q
      obtain ⟨q1, q2, q3, q4⟩ := hq
      simp only at q1 q2 q3 q4
      have h6 : ¬ 6 ≤ k := by simpa using hc
      have hem : emitF u k = [] := by unfold emitF; rw [if_neg (by omega), if_neg h6]
      rw [hem, List.append_nil] at q3
      have hk : k = (lb + 8) % 6 := by omega
      subst hk q3
      refine ex_nil (ex_turn_end ?_ (OSub.refl _))
      walk_at "subs"
  · have hlen2 : (byteInts l).length = l.length := by simp [byteInts]
    rw [hlen2, List.take_length]
    obtain ⟨k1, k2, k3, k4, k5⟩ := stF_ok l
    show Ex G _ _ [("leftchar", .int (stF l).1), ("leftbits", .int (stF l).2.1), ("out", own a), ("newline", .bool false)] [(a, .list (dints (stF l).2.2))] _ _
    rw [h0]
    generalize (stF l).2.2 = out at k4 k5 ⊢
    refine ex_if (c := false) (tstE (b := ((0 : Nat) : Int) == 2) ?_ rfl) (fun h => by cases h) (fun _ => ?_)
    · repeat' (walk_at "one")
    refine ex_if (c := false) (tstE (b := ((0 : Nat) : Int) == 4) ?_ rfl) (fun h => by cases h) (fun _ => ex_nil (ex_nil ?_))
    · repeat' (walk_at "one")
    refine ex_if (c := false) ?_ (fun h => by cases h) (fun _ => ex_nil ?_)
    · repeat' (walk_at "one")
    refine ex_freeze "out" (a := a) (ds := dints out) (ow' := []) (by walk_at "lk") (List.mem_cons_self ..) OSub.nil (by simp) (fun _ => .nil) ha ?_
    refine ex_ret (d := .bytes (out.map fun (m : Int) => m.toNat.toUInt8)) ?_ rfl
    refine ev_callT (T := "bytes") (ds := [.list (dints out)]) ?_ ?_ rfl (fn_bytes k4 (small (by omega))) rfl
    · repeat' (walk_at "one")
    · repeat' (walk_at "one")
theorem b64encode_is (l : List UInt8) (hl : l.length ≤ 100) (h0 : (stF l).2.1 = 0) : FnIs G 80 (.ref 149) [.bytes l] (.bytes ((stF l).2.2.map fun m => m.toNat.toUInt8)) := by
  refine FnA.plain (fnA_K hK [("s", .bytes l), ("altchars", .none)] (fun vs ks => vs ++ [.none]) rfl rfl rfl ?_ ?_ rfl rfl rfl rfl rfl rfl rfl rfl ?_)
  · intro S vs ks hv hk; obtain ⟨a, rfl⟩ := len1 hv; rw [len0 hk]; kernel_rfl
  · intro X h vs ks r r'; exact r.append (.cons .none .nil)
  intro X L
  refine ex_assign (d := .bytes ((stF l).2.2.map fun (m : Int) => m.toNat.toUInt8)) (by kernel_rfl) rfl (ev_callK (f := 141) (ds := [.bytes l]) (kd := .bool false) ?_ ?_ ?_ rfl ev_bool ((b2a_is hK l hl h0).le (by decide)) rfl) ?_
  · repeat' (walk_at "one")
  · rw [hK]; rfl
  · repeat' (walk_at "one")
  refine ex_if (c := false) (tst_cmp (n := 71) rfl (d₁ := .none) (d₂ := .none) ?_ ev_none (cmp_isnot_none rfl)) (fun h => by cases h) (fun _ => ex_nil ?_)
  · repeat' (walk_at "one")
  refine ex_ret ?_ rfl
  repeat' (walk_at "one")
end
noncomputable def nlF (q : Nat) (v : Int) : Int := if q = 0 then v else if q = 1 then v % 16 else if q = 2 then v % 4 else 0
noncomputable def noF (q : Nat) (lf v : Int) : List Int := if q = 0 then [] else if q = 1 then [lf * 4 + v / 16] else if q = 2 then [lf * 16 + v / 4] else [lf * 64 + v]
noncomputable def stepA (st : Nat × Int × List Int) (b : UInt8) : Nat × Int × List Int := ((st.1 + 1) % 4, nlF st.1 (b64valF b.toNat), st.2.2 ++ noF st.1 st.2.1 (b64valF b.toNat))
noncomputable def stA (l : List UInt8) : Nat × Int × List Int := l.foldl stepA (0, 0, [])
noncomputable def goodB (b : UInt8) : Prop := (b.toNat : Int) ≠ 61 ∧ 0 ≤ b64valF b.toNat ∧ b64valF b.toNat < 64
noncomputable def okA (st : Nat × Int × List Int) : Prop := st.1 < 4 ∧ 0 ≤ st.2.1 ∧ (st.1 = 1 → st.2.1 < 64) ∧ (st.1 = 2 → st.2.1 < 16) ∧ (st.1 = 3 → st.2.1 < 4) ∧ ∀ i ∈ st.2.2, 0 ≤ i ∧ i < 256
theorem okA_step (st : Nat × Int × List Int) (b : UInt8) (h : okA st) (hb : goodB b) : okA (stepA st b) := by
  obtain ⟨q, lf, o⟩ := st
  obtain ⟨h1, h2, h3, h4, h5, h6⟩ := h
  obtain ⟨_, b1, b2⟩ := hb
  simp only at h1 h2 h3 h4 h5 h6
  have hq : q = 0 ∨ q = 1 ∨ q = 2 ∨ q = 3 := by omega
  unfold okA stepA
  dsimp only
  generalize b64valF b.toNat = v at b1 b2 ⊢
  have key : ∀ i ∈ noF q lf v, 0 ≤ i ∧ i < 256 := by
    intro i hi
    rcases hq with rfl | rfl | rfl | rfl
    · simp [noF] at hi
    · have := h3 rfl; simp [noF] at hi; omega
    · have := h4 rfl; simp [noF] at hi; omega
    · have := h5 rfl; simp [noF] at hi; omega
  have all : ∀ i ∈ o ++ noF q lf v, 0 ≤ i ∧ i < 256 := fun i hi => by
    rcases List.mem_append.mp hi with hi | hi
    · exact h6 i hi
    · exact key i hi
  have keyl : (noF q lf v).length ≤ 1 := by
    rcases hq with rfl | rfl | rfl | rfl <;> simp [noF]
  rcases hq with rfl | rfl | rfl | rfl
  · refine ⟨by decide, ?_, fun _ => ?_, fun h => absurd h (by decide), fun h => absurd h (by decide), all⟩ <;> simp [nlF] <;> omega
  · refine ⟨by decide, ?_, fun h => absurd h (by decide), fun _ => ?_, fun h => absurd h (by decide), all⟩ <;> simp [nlF] <;> omega
  · refine ⟨by decide, ?_, fun h => absurd h (by decide), fun h => absurd h (by decide), fun _ => ?_, all⟩ <;> simp [nlF] <;> omega
  · refine ⟨by decide, ?_, fun h => absurd h (by decide), fun h => absurd h (by decide), fun h => absurd h (by decide), all⟩ <;> simp [nlF]
theorem noF_len (q : Nat) (lf v : Int) : (noF q lf v).length ≤ 1 := by
  unfold noF; split
  · simp
  · split
    · simp
    · split <;> simp
theorem stA_ok (l : List UInt8) (h : ∀ b ∈ l, goodB b) : okA (stA l) ∧ (stA l).2.2.length ≤ l.length := by
  have key : ∀ (l : List UInt8) (st : Nat × Int × List Int), okA st → (∀ b ∈ l, goodB b) → okA (l.foldl stepA st) ∧ (l.foldl stepA st).2.2.length ≤ st.2.2.length + l.length := by
    intro l
    induction l with
    | nil => intro st h _; exact ⟨h, by simp⟩
    | cons b l ih =>
      intro st h hb
      have h1 := okA_step st b h (hb b (List.mem_cons_self ..))
      obtain ⟨h2, h3⟩ := ih (stepA st b) h1 fun b' hb' => hb b' (List.mem_cons_of_mem _ hb')
      refine ⟨h2, Nat.le_trans h3 ?_⟩
      have h4 : (stepA st b).2.2.length ≤ st.2.2.length + 1 := by
        show (st.2.2 ++ noF _ _ _).length ≤ _
        rw [List.length_append]
        have := noF_len st.1 st.2.1 (b64valF b.toNat)
        omega
      rw [List.length_cons]; omega
  have := key l (0, 0, []) ⟨by decide, Int.le_refl _, fun h => absurd h (by decide), fun h => absurd h (by decide), fun h => absurd h (by decide), fun i hi => absurd hi (List.not_mem_nil)⟩ h
  simpa [stA] using this
theorem stA_succ (l : List UInt8) (i : Nat) (b : UInt8) (h : l[i]? = some b) : stA (l.take (i + 1)) = stepA (stA (l.take i)) b := by
  unfold stA
  rw [List.take_add_one, h]
  simp [List.foldl_append]
section
variable {P : Params} {G : Gd} (hK : G.K = K01 P)
include hK
set_option maxHeartbeats 1000000
theorem a2b_is (l : List UInt8) (hl : l.length ≤ 100) (hg : ∀ b ∈ l, goodB b) (h0 : (stA l).1 = 0) : FnA G 60 (.ref 133) [.bytes l] ["strict_mode"] [.bool false] (.bytes ((stA l).2.2.map fun (m : Int) => m.toNat.toUInt8)) := by
  refine fnA_K hK [("data", .bytes l), ("strict_mode", .bool false)] (fun vs ks => vs ++ ks) rfl rfl rfl ?_ ?_ rfl rfl rfl rfl rfl rfl rfl rfl ?_
  · intro S vs ks hv hk; obtain ⟨a, rfl⟩ := len1 hv; obtain ⟨b, rfl⟩ := len1 hk; kernel_rfl
  · intro X h vs ks r r'; exact r.append r'
  intro X L
  refine ex_assign (d := .bytes l) (by kernel_rfl) rfl (ev_call (f := 104) (ds := [.bytes l]) ?_ ?_ ?_ rfl ((ascii_buffer_is hK l).le (by decide)) rfl) ?_
  · repeat' (walk_at "one")
  · rw [hK]; rfl
  · repeat' (walk_at "one")
  refine ex_assign (d := .bool false) (by kernel_rfl) rfl (ev_call (f := 118) (ds := [.bool false]) ?_ ?_ ?_ rfl ((truth_is hK false).le (by decide)) rfl) ?_
  · repeat' (walk_at "one")
  · rw [hK]; rfl
  · repeat' (walk_at "one")
  refine ex_newlist (by kernel_rfl) rfl fun a ha => ?_
  refine ex_assign (d := .int 0) (by kernel_rfl) rfl ev_int (ex_assign (d := .int 0) (by kernel_rfl) rfl ev_int (ex_assign (d := .int 0) (by kernel_rfl) rfl ev_int (ex_assign (d := .int 0) (by kernel_rfl) rfl ev_int ?_)))
  refine ex_forN (ds := byteInts l) (by kernel_rfl) (src_of (d := .bytes l) ?_ iter_bytes) (fun i => [("quad_pos", .int (stA (l.take i)).1), ("leftchar", .int (stA (l.take i)).2.1), ("pads", .int 0), ("i", .int i), ("out", own a), ("strict_mode", .bool false)]) (fun i => [(a, .list (dints (stA (l.take i)).2.2))]) ?_ (OSub.refl _) (fun _ => rfl) ?_ ?_
  · repeat' (walk_at "one")
  · walk_at "subs"
    all_goals (first | rfl | (rw [List.take_zero]; rfl))
  · intro i d hd Y
    have hd' : ∃ b, l[i]? = some b ∧ d = .int b.toNat := by
      simp only [byteInts, List.getElem?_map] at hd
      cases e : l[i]? with
      | none => rw [e] at hd; cases hd
      | some b => rw [e] at hd; cases hd; exact ⟨b, rfl, rfl⟩
    obtain ⟨b, hb, rfl⟩ := hd'
    rw [stA_succ l i b hb]
    obtain ⟨k, k5⟩ := stA_ok (l.take i) fun b hb => hg b (List.mem_of_mem_take hb)
    have hgb := hg b (List.mem_of_getElem? hb)
    have hlen : (l.take i).length ≤ 100 := by rw [List.length_take]; omega
    generalize stA (l.take i) = st at k k5
    obtain ⟨q, lf, o⟩ := st
    obtain ⟨k1, k2, k3, k4, k6, k7⟩ := k
    obtain ⟨b0, b1, b2⟩ := hgb
    simp only at k1 k2 k3 k4 k5 k6 k7
    unfold stepA
    dsimp only
    generalize hcv : (b.toNat : Int) = c at b0 b1 b2 ⊢
    generalize hbv : b64valF c = v at b1 b2 ⊢
    refine ex_if (c := false) (tstE (b := c == 61) ?_ (by simpa using b0)) (fun h => by cases h) (fun _ => ex_nil ?_)
    · repeat' (walk_at "one")
    refine ex_assign (d := .int v) (by kernel_rfl) rfl (ev_call (f := 125) (ds := [.int c]) ?_ ?_ ?_ rfl (hbv ▸ (b64value_is hK c).le (by decide)) rfl) ?_
    · repeat' (walk_at "one")
    · rw [hK]; rfl
    · repeat' (walk_at "one")
    refine ex_if (c := false) (tstE (b := decide (v ≥ 64)) ?_ (by simp; omega)) (fun h => by cases h) (fun _ => ex_nil ?_)
    · repeat' (walk_at "one")
    refine ex_if (c := false) (tst_and_no (tst_plain (d := .int 0) rfl ?_ truth_int)) (fun h => by cases h) (fun _ => ex_nil ?_)
    · repeat' (walk_at "one")
    refine ex_assign (d := .int 0) (by kernel_rfl) rfl ev_int ?_
    have hq : q = 0 ∨ q = 1 ∨ q = 2 ∨ q = 3 := by omega
    rcases hq with rfl | rfl | rfl | rfl
    · refine ex_if (c := true) (tstE (b := ((0 : Nat) : Int) == 0) ?_ rfl) (fun _ => ?_) (fun h => by cases h)
      · repeat' (walk_at "one")
      refine ex_assign (d := .int 1) (by kernel_rfl) rfl ev_int (ex_assign (d := .int v) (by kernel_rfl) rfl (by repeat' (walk_at "one")) (ex_nil ?_))
      refine ex_assign (d := .int (i + 1)) (by kernel_rfl) rfl (by repeat' (walk_at "one")) (ex_nil (ex_turn_end ?_ ?_))
      · walk_at "subs"
        all_goals rfl
      · simp only [noF, if_true, List.append_nil]; exact OSub.refl _
    · have hlf := k3 rfl
      have e1 : lf * 2 ^ (2 : Int).toNat = lf * ((2 ^ 2 : Nat) : Int) := rfl
      have e2 : v.fdiv (2 ^ (4 : Int).toNat) = v / 16 := shr_nat 4 b1
      refine ex_if (c := false) (tstE (b := ((1 : Nat) : Int) == 0) ?_ rfl) (fun h => by cases h) (fun _ => ?_)
      · repeat' (walk_at "one")
      refine ex_if (c := true) (tstE (b := ((1 : Nat) : Int) == 1) ?_ rfl) (fun _ => ?_) (fun h => by cases h)
      · repeat' (walk_at "one")
      refine ex_assign (d := .int 2) (by kernel_rfl) rfl ev_int ?_
      refine ex_append (a := a) (ds := dints o) (d := .int (lf * 4 + v / 16)) ?_ (OSet.head _) (evAll_cons (by intro _ _ h; cases h) (ev_eq (d' := .int (Builtin.bitOr (lf * 2 ^ (2 : Int).toNat) (v.fdiv (2 ^ (4 : Int).toNat)))) (ev_binop (ev_binop ?_ ev_int (bin_shl (by decide) (by decide) (by omega))) (ev_binop ?_ ev_int (bin_shr (by decide))) bin_or) ?_) evAll_nil) rfl (small (by rw [dints, List.length_map]; omega)) rfl rfl rfl ?_
      · repeat' (walk_at "one")
      · repeat' (walk_at "one")
      · repeat' (walk_at "one")
      · rw [e1, e2, or_low 2 k2 (by constructor <;> (show _ ; omega))]; rfl
      refine ex_assign (d := .int (v % 16)) (by kernel_rfl) rfl (ev_eq (d' := .int (Builtin.bitAnd v 15)) (ev_binop ?_ ev_int bin_and) (by rw [and_15 b1])) (ex_nil (ex_nil ?_))
      · repeat' (walk_at "one")
      refine ex_assign (d := .int (i + 1)) (by kernel_rfl) rfl (by repeat' (walk_at "one")) (ex_nil (ex_turn_end ?_ ?_))
      · walk_at "subs"
        all_goals rfl
      · have : dints (o ++ noF 1 lf v) = dints o ++ [.int (lf * 4 + v / 16)] := by simp [dints, noF]
        rw [this]; exact OSub.refl _
    · have hlf := k4 rfl
      have e1 : lf * 2 ^ (4 : Int).toNat = lf * ((2 ^ 4 : Nat) : Int) := rfl
      have e2 : v.fdiv (2 ^ (2 : Int).toNat) = v / 4 := shr_nat 2 b1
      refine ex_if (c := false) (tstE (b := ((2 : Nat) : Int) == 0) ?_ rfl) (fun h => by cases h) (fun _ => ?_)
      · repeat' (walk_at "one")
      refine ex_if (c := false) (tstE (b := ((2 : Nat) : Int) == 1) ?_ rfl) (fun h => by cases h) (fun _ => ?_)
      · repeat' (walk_at "one")
      refine ex_if (c := true) (tstE (b := ((2 : Nat) : Int) == 2) ?_ rfl) (fun _ => ?_) (fun h => by cases h)
      · repeat' (walk_at "one")
      refine ex_assign (d := .int 3) (by kernel_rfl) rfl ev_int ?_
      refine ex_append (a := a) (ds := dints o) (d := .int (lf * 16 + v / 4)) ?_ (OSet.head _) (evAll_cons (by intro _ _ h; cases h) (ev_eq (d' := .int (Builtin.bitOr (lf * 2 ^ (4 : Int).toNat) (v.fdiv (2 ^ (2 : Int).toNat)))) (ev_binop (ev_binop ?_ ev_int (bin_shl (by decide) (by decide) (by omega))) (ev_binop ?_ ev_int (bin_shr (by decide))) bin_or) ?_) evAll_nil) rfl (small (by rw [dints, List.length_map]; omega)) rfl rfl rfl ?_
      · repeat' (walk_at "one")
      · repeat' (walk_at "one")
      · repeat' (walk_at "one")
      · rw [e1, e2, or_low 4 k2 (by constructor <;> (show _ ; omega))]; rfl
      refine ex_assign (d := .int (v % 4)) (by kernel_rfl) rfl (ev_eq (d' := .int (Builtin.bitAnd v 3)) (ev_binop ?_ ev_int bin_and) (by rw [and_3 b1])) (ex_nil (ex_nil (ex_nil ?_)))
      · repeat' (walk_at "one")
      refine ex_assign (d := .int (i + 1)) (by kernel_rfl) rfl (by repeat' (walk_at "one")) (ex_nil (ex_turn_end ?_ ?_))
      · walk_at "subs"
        all_goals rfl
      · have : dints (o ++ noF 2 lf v) = dints o ++ [.int (lf * 16 + v / 4)] := by simp [dints, noF]
        rw [this]; exact OSub.refl _
    · have hlf := k6 rfl
      have e1 : lf * 2 ^ (6 : Int).toNat = lf * ((2 ^ 6 : Nat) : Int) := rfl
      refine ex_if (c := false) (tstE (b := ((3 : Nat) : Int) == 0) ?_ rfl) (fun h => by cases h) (fun _ => ?_)
      · repeat' (walk_at "one")
      refine ex_if (c := false) (tstE (b := ((3 : Nat) : Int) == 1) ?_ rfl) (fun h => by cases h) (fun _ => ?_)
      · repeat' (walk_at "one")
      refine ex_if (c := false) (tstE (b := ((3 : Nat) : Int) == 2) ?_ rfl) (fun h => by cases h) (fun _ => ?_)
      · repeat' (walk_at "one")
      refine ex_assign (d := .int 0) (by kernel_rfl) rfl ev_int ?_
      refine ex_append (a := a) (ds := dints o) (d := .int (lf * 64 + v)) ?_ (OSet.head _) (evAll_cons (by intro _ _ h; cases h) (ev_eq (d' := .int (Builtin.bitOr (lf * 2 ^ (6 : Int).toNat) v)) (ev_binop (ev_binop ?_ ev_int (bin_shl (by decide) (by decide) (by omega))) ?_ bin_or) ?_) evAll_nil) rfl (small (by rw [dints, List.length_map]; omega)) rfl rfl rfl ?_
      · repeat' (walk_at "one")
      · repeat' (walk_at "one")
      · repeat' (walk_at "one")
      · rw [e1, or_low 6 k2 (by constructor <;> (show _ ; omega))]; rfl
      refine ex_assign (d := .int 0) (by kernel_rfl) rfl ev_int (ex_nil (ex_nil (ex_nil ?_)))
      refine ex_assign (d := .int (i + 1)) (by kernel_rfl) rfl (by repeat' (walk_at "one")) (ex_nil (ex_turn_end ?_ ?_))
      · walk_at "subs"
        all_goals rfl
      · have : dints (o ++ noF 3 lf v) = dints o ++ [.int (lf * 64 + v)] := by simp [dints, noF]
        rw [this]; exact OSub.refl _
  · have hlen2 : (byteInts l).length = l.length := by simp [byteInts]
    rw [hlen2, List.take_length]
    obtain ⟨k, k5⟩ := stA_ok l hg
    show Ex G _ _ [("quad_pos", .int (stA l).1), ("leftchar", .int (stA l).2.1), ("pads", .int 0), ("i", .int l.length), ("out", own a), ("strict_mode", .bool false)] [(a, .list (dints (stA l).2.2))] _ _
    rw [h0]
    obtain ⟨_, _, _, _, _, k4⟩ := k
    generalize (stA l).2.2 = out at k4 k5 ⊢
    refine ex_if (c := false) (tstE (b := ((0 : Nat) : Int) == 1) ?_ rfl) (fun h => by cases h) (fun _ => ex_nil ?_)
    · repeat' (walk_at "one")
    refine ex_if (c := false) (tst_and_no (tstE (b := ((0 : Nat) : Int) != 0) ?_ rfl)) (fun h => by cases h) (fun _ => ex_nil ?_)
    · repeat' (walk_at "one")
    refine ex_freeze "out" (a := a) (ds := dints out) (ow' := []) (by walk_at "lk") (List.mem_cons_self ..) OSub.nil (by simp) (fun _ => .nil) ha ?_
    refine ex_ret (d := .bytes (out.map fun (m : Int) => m.toNat.toUInt8)) ?_ rfl
    refine ev_callT (T := "bytes") (ds := [.list (dints out)]) ?_ ?_ rfl (fn_bytes k4 (small (by omega))) rfl
    · repeat' (walk_at "one")
    · repeat' (walk_at "one")
theorem from_data_is (a b c d : Nat) (h : a < 128 ∧ b < 128 ∧ c < 128 ∧ d < 128) : FnIs G 30 (.ref 84) [.str [a, b, c, d]] (.bytes [a.toUInt8, b.toUInt8, c.toUInt8, d.toUInt8]) := by
  refine fn_K hK [("s", .str [a, b, c, d])] rfl rfl rfl ?_ rfl rfl rfl rfl rfl rfl rfl rfl ?_
  · intro vs hv; obtain ⟨a, rfl⟩ := len1 hv; kernel_rfl
  intro X L
  refine ex_if (c := true) (tst_plain (d := .bool true) rfl (ev_callB (id := "isinstance") (ds := [.str [a, b, c, d], .raw (.type "str")]) ?_ ?_ rfl tst_isinstance_str rfl) truth_bool) (fun _ => ?_) (fun h => by cases h)
  · repeat' (walk_at "one")
  · repeat' (walk_at "one")
  refine ex_try ?_
  refine ex_ret (d := .bytes [a.toUInt8, b.toUInt8, c.toUInt8, d.toUInt8]) (ev_meth (d₀ := .str [a, b, c, d]) (ds := [.str (S "ascii")]) ?_ (meth_str F.slot_str_encode F.type_str_encode) (evAll_cons (by intro _ _ h; cases h) ev_lit evAll_nil) rfl (fn_encode4 h) rfl) rfl
  repeat' (walk_at "one")
theorem b64decode_is (a b c d : Nat) (h : a < 128 ∧ b < 128 ∧ c < 128 ∧ d < 128) (hg : ∀ x ∈ [a.toUInt8, b.toUInt8, c.toUInt8, d.toUInt8], goodB x) (h0 : (stA [a.toUInt8, b.toUInt8, c.toUInt8, d.toUInt8]).1 = 0) : FnIs G 80 (.ref 157) [.str [a, b, c, d]] (.bytes ((stA [a.toUInt8, b.toUInt8, c.toUInt8, d.toUInt8]).2.2.map fun (m : Int) => m.toNat.toUInt8)) := by
  refine FnA.plain (fnA_K hK [("s", .str [a, b, c, d]), ("altchars", .none), ("validate", .bool false)] (fun vs ks => vs ++ [.none, .bool false]) rfl rfl rfl ?_ ?_ rfl rfl rfl rfl rfl rfl rfl rfl ?_)
  · intro S vs ks hv hk; obtain ⟨a, rfl⟩ := len1 hv; rw [len0 hk]; kernel_rfl
  · intro X h vs ks r r'; exact r.append (.cons .none (.cons (.bool false) .nil))
  intro X L
  refine ex_assign (d := .bytes [a.toUInt8, b.toUInt8, c.toUInt8, d.toUInt8]) (by kernel_rfl) rfl (ev_call (f := 84) (ds := [.str [a, b, c, d]]) ?_ ?_ ?_ rfl ((from_data_is hK a b c d h).le (by decide)) rfl) ?_
  · repeat' (walk_at "one")
  · rw [hK]; rfl
  · repeat' (walk_at "one")
  refine ex_if (c := false) (tst_cmp (n := 71) rfl (d₁ := .none) (d₂ := .none) ?_ ev_none (cmp_isnot_none rfl)) (fun h => by cases h) (fun _ => ex_nil ?_)
  · repeat' (walk_at "one")
  refine ex_ret (d := .bytes ((stA [a.toUInt8, b.toUInt8, c.toUInt8, d.toUInt8]).2.2.map fun (m : Int) => m.toNat.toUInt8)) (ev_callK (f := 133) (ds := [.bytes [a.toUInt8, b.toUInt8, c.toUInt8, d.toUInt8]]) (kd := .bool false) ?_ ?_ ?_ rfl ?_ ((a2b_is hK _ (by simp) hg h0).le (by decide)) rfl) rfl
  · repeat' (walk_at "one")
  · rw [hK]; rfl
  · repeat' (walk_at "one")
  · repeat' (walk_at "one")
end
noncomputable def partsF (st : Addr) (w : List Nat) : List D := own st :: w.flatMap fun c => [.str (tokF c), own st]
theorem partsF_len (st : Addr) (w : List Nat) : (partsF st w).length = 2 * w.length + 1 := by
  unfold partsF
  rw [List.length_cons]
  congr 1
  induction w with
  | nil => rfl
  | cons c w ih => rw [List.flatMap_cons, List.length_append, ih, List.length_cons]; simp; omega
theorem partsF_star (st : Addr) : ∀ (w : List Nat) (k : Nat), k ≤ w.length → (partsF st w)[2 * k]? = some (own st)
  | _, 0, _ => rfl
  | [], k + 1, h => by simp at h
  | c :: w, k + 1, h => by
    have ih := partsF_star st w k (by simpa using h)
    have e : partsF st (c :: w) = own st :: .str (tokF c) :: partsF st w := by simp [partsF]
    rw [e, show 2 * (k + 1) = 2 * k + 1 + 1 by omega, List.getElem?_cons_succ, List.getElem?_cons_succ]
    exact ih
theorem partsF_tok (st : Addr) : ∀ (w : List Nat) (k : Nat) (c : Nat), w[k]? = some c → (partsF st w)[2 * k + 1]? = some (.str (tokF c))
  | [], k, c, h => by simp at h
  | c' :: w, 0, c, h => by cases h; simp [partsF]
  | c' :: w, k + 1, c, h => by
    have ih := partsF_tok st w k c (by simpa using h)
    have e : partsF st (c' :: w) = own st :: .str (tokF c') :: partsF st w := by simp [partsF]
    rw [e, show 2 * (k + 1) + 1 = 2 * k + 1 + 1 + 1 by omega, List.getElem?_cons_succ, List.getElem?_cons_succ]
    exact ih
section
variable {P : Params} {G : Gd} (hK : G.K = K01 P)
include hK
set_option maxHeartbeats 1000000
theorem join_is (st : Addr) (w : List Nat) (hw : w.length ≤ 50) : FnIs G 60 (.ref 76) [.list (partsF st w), own st] (.str (transF w)) := by
  refine fn_K hK [("inp", .list (partsF st w)), ("STAR", own st)] rfl rfl rfl ?_ rfl rfl rfl rfl rfl rfl rfl rfl ?_
  · intro vs hv; obtain ⟨a, b, rfl⟩ := len2 hv; kernel_rfl
  intro X L
  have hlen := partsF_len st w
  refine ex_newlist (by kernel_rfl) rfl fun a ha => ?_
  refine ex_assign (d := .bm "list.append" a) (by kernel_rfl) rfl (ev_bound (ds := []) rfl (fun _ _ => rfl) ?_ (List.mem_cons_self ..)) ?_
  · repeat' (walk_at "one")
  refine ex_pair_sw (d := .tup [.int 0, .int (partsF st w).length]) (by kernel_rfl) (by kernel_rfl) rfl rfl (ev_tup (evAll_cons (by intro _ _ h; cases h) ev_int (evAll_cons (by intro _ _ h; cases h) (ev_callB (ds := [.list (partsF st w)]) ?_ ?_ rfl (fn_len_list (by omega)) rfl) evAll_nil)) (small (by simp))) unp_tup ?_
  · repeat' (walk_at "one")
  · repeat' (walk_at "one")
  rw [hlen]
  -- the first loop: nothing
  refine ex_while (σ := Unit) (fun _ => [("i", .int 0), ("n", .int (2 * w.length + 1 : Nat)), ("add", .bm "list.append" a), ("res", own a), ("inp", .list (partsF st w)), ("STAR", own st)]) (fun _ => [(a, .list [])]) (fun _ => True) (fun _ => 0) (fun _ => false) () trivial ?_ (OSub.refl _) (fun _ => rfl) (fun _ _ => ?_) (fun _ _ h => by cases h) (fun _ _ _ => ?_)
  · walk_at "subs"
  · refine tst_and_yes (tstE (b := decide ((0 : Int) < (2 * w.length + 1 : Nat))) ?_ (by simp; omega)) (tst_and_no (tst_cmp (n := 51) rfl (d₁ := own st) (d₂ := own st) (ev_item rfl ?_ ?_ (item_list (i := 0) (by decide) (partsF_star st w 0 (Nat.zero_le _)) (by decide))) ?_ cmp_isnot_ref))
    all_goals (repeat' (walk_at "one"))
  -- the second loop
  refine ex_while (σ := Nat) (fun k => [("i", .int (2 * k : Nat)), ("n", .int (2 * w.length + 1 : Nat)), ("add", .bm "list.append" a), ("res", own a), ("inp", .list (partsF st w)), ("STAR", own st)]) (fun k => [(a, .list (dstrs ((w.take k).map groupF)))]) (fun k => k ≤ w.length) (fun k => w.length - k) (fun _ => true) 0 (Nat.zero_le _) ?_ (OSub.refl _) (fun _ => rfl) (fun k hk => ?_) (fun k hk _ => ?_) (fun _ _ h => by cases h)
  · walk_at "subs"
    rfl
  · refine tstE (b := decide (((2 * k : Nat) : Int) < (2 * w.length + 1 : Nat))) ?_ (by simp; omega)
    repeat' (walk_at "one")
  refine ex_assert (c := true) (tst_cmp (n := 51) rfl (d₁ := own st) (d₂ := own st) (ev_item rfl ?_ ?_ (item_list (i := ((2 * k : Nat) : Int)) (by omega) (partsF_star st w k hk) (by omega))) ?_ cmp_is_ref) rfl ?_
  · repeat' (walk_at "one")
  · repeat' (walk_at "one")
  · repeat' (walk_at "one")
  refine ex_aug (d := .int (2 * k + 1 : Nat)) (d₂ := .int 1) (by kernel_rfl) (by kernel_rfl) (by walk_at "lk") ev_int (by have := inc_add (a := ((2 * k : Nat) : Int)) (b := 1); exact_mod_cast this) ?_
  rcases Nat.lt_or_ge k w.length with hlt | hge
  · obtain ⟨c, hc⟩ : ∃ c, w[k]? = some c := ⟨w[k], List.getElem?_eq_getElem hlt⟩
    have htl := tokF_len c
    refine ex_if (c := false) (tstE (b := ((2 * k + 1 : Nat) : Int) == (2 * w.length + 1 : Nat)) ?_ (by simp; omega)) (fun h => by cases h) (fun _ => ex_nil ?_)
    · repeat' (walk_at "one")
    refine ex_assert (c := true) (tst_cmp (n := 51) rfl (d₁ := .str (tokF c)) (d₂ := own st) (ev_item rfl ?_ ?_ (item_list (i := ((2 * k + 1 : Nat) : Int)) (by omega) (partsF_tok st w k c hc) (by omega))) ?_ cmp_isnot_str) rfl ?_
    · repeat' (walk_at "one")
    · repeat' (walk_at "one")
    · repeat' (walk_at "one")
    refine ex_newlist (by kernel_rfl) rfl fun a2 ha2 => ?_
    refine ex_while (σ := Bool) (fun j => [("fixed", own a2), ("i", .int (if j then 2 * k + 2 else 2 * k + 1 : Nat)), ("n", .int (2 * w.length + 1 : Nat)), ("add", .bm "list.append" a), ("res", own a), ("inp", .list (partsF st w)), ("STAR", own st)]) (fun j => [(a2, .list (if j then [.str (tokF c)] else [])), (a, .list (dstrs ((w.take k).map groupF)))]) (fun _ => True) (fun j => if j then 0 else 1) (fun j => !j) false trivial ?_ (OSub.refl _) (fun _ => rfl) (fun j _ => ?_) (fun j _ hj => ?_) (fun j _ hj => ?_)
    · walk_at "subs"
      all_goals rfl
    · cases j with
      | false =>
        show Tst G _ _ [("fixed", own a2), ("i", .int (2 * k + 1 : Nat)), ("n", .int (2 * w.length + 1 : Nat)), ("add", .bm "list.append" a), ("res", own a), ("inp", .list (partsF st w)), ("STAR", own st)] _ _ true
        refine tst_and_yes (tstE (b := decide (((2 * k + 1 : Nat) : Int) < (2 * w.length + 1 : Nat))) ?_ (by simp; omega)) (tst_and_yes (tst_cmp (n := 51) rfl (d₁ := .str (tokF c)) (d₂ := own st) (ev_item rfl ?_ ?_ (item_list (i := ((2 * k + 1 : Nat) : Int)) (by omega) (partsF_tok st w k c hc) (by omega))) ?_ cmp_isnot_str) tst_and_nil)
        all_goals (repeat' (walk_at "one"))
      | true =>
        show Tst G _ _ [("fixed", own a2), ("i", .int (2 * k + 2 : Nat)), ("n", .int (2 * w.length + 1 : Nat)), ("add", .bm "list.append" a), ("res", own a), ("inp", .list (partsF st w)), ("STAR", own st)] _ _ false
        refine tst_and_yes (tstE (b := decide (((2 * k + 2 : Nat) : Int) < (2 * w.length + 1 : Nat))) ?_ (by simp; omega)) (tst_and_no (tst_cmp (n := 51) rfl (d₁ := own st) (d₂ := own st) (ev_item rfl ?_ ?_ (item_list (i := ((2 * k + 2 : Nat) : Int)) (by omega) (partsF_star st w (k + 1) hlt) (by omega))) ?_ cmp_isnot_ref))
        all_goals (repeat' (walk_at "one"))
    · cases j with
      | true => cases hj
      | false =>
        show Ex G _ _ [("fixed", own a2), ("i", .int (2 * k + 1 : Nat)), ("n", .int (2 * w.length + 1 : Nat)), ("add", .bm "list.append" a), ("res", own a), ("inp", .list (partsF st w)), ("STAR", own st)] [(a2, .list []), (a, .list (dstrs ((w.take k).map groupF)))] _ _
        refine ex_append (a := a2) (ds := []) (d := .str (tokF c)) ?_ (OSet.head _) (evAll_cons (by intro _ _ h; cases h) (ev_item rfl ?_ ?_ (item_list (i := ((2 * k + 1 : Nat) : Int)) (by omega) (partsF_tok st w k c hc) (by omega))) evAll_nil) rfl (small (by simp)) rfl rfl rfl ?_
        · repeat' (walk_at "one")
        · repeat' (walk_at "one")
        · repeat' (walk_at "one")
        refine ex_aug (d := .int (2 * k + 2 : Nat)) (d₂ := .int 1) (by kernel_rfl) (by kernel_rfl) (by walk_at "lk") ev_int (by have := inc_add (a := ((2 * k + 1 : Nat) : Int)) (b := 1); exact_mod_cast this) ?_
        refine ex_nil (ex_end ⟨true, trivial, by decide, ?_, OSub.refl _⟩)
        walk_at "subs"
        all_goals rfl
    · cases j with
      | false => cases hj
      | true =>
        show Ex G _ _ [("fixed", own a2), ("i", .int (2 * k + 2 : Nat)), ("n", .int (2 * w.length + 1 : Nat)), ("add", .bm "list.append" a), ("res", own a), ("inp", .list (partsF st w)), ("STAR", own st)] [(a2, .list [.str (tokF c)]), (a, .list (dstrs ((w.take k).map groupF)))] _ _
        refine ex_freeze_head "fixed" (a := a2) (ds := [.str (tokF c)]) (by walk_at "lk") ha2 ?_
        refine ex_assign (d := .str (tokF c)) (by kernel_rfl) rfl (ev_eq (d' := .str (joinL [] [tokF c])) (ev_join rfl rfl (ev_litE (l := []) rfl) ?_ (by simp; omega)) (by simp [joinL])) ?_
        · show Ev G _ _ _ _ _ (.list [.str (tokF c)])
          repeat' (walk_at "one")
        refine ex_if (c := false) (tstE (b := ((2 * k + 2 : Nat) : Int) == (2 * w.length + 1 : Nat)) ?_ (by simp; omega)) (fun h => by cases h) (fun _ => ?_)
        · repeat' (walk_at "one")
        refine ex_add (a := a) (ds := dstrs ((w.take k).map groupF)) (d := .str (groupF c)) rfl ?_ (OSet.head _) (evAll_cons (by intro _ _ h; cases h) (ev_eq (d' := .str [S "(?>.*?", tokF c, [41]].flatten) (ev_fstr (evj_cons (ev_litE rfl) (evj_cons (ev_fval ?_ (small (by omega))) (evj_cons (ev_litE rfl) evj_nil))) (small ?_)) ?_) evAll_nil) rfl (small ?_) rfl rfl ?_
        · repeat' (walk_at "one")
        · repeat' (walk_at "one")
        · have : (S "(?>.*?").length = 6 := rfl
          simp; omega
        · simp [groupF]
        · rw [dstrs, List.length_map, List.length_map, List.length_take]; omega
        refine ex_nil (ex_nil (ex_end ⟨k + 1, hlt, by omega, ?_, ?_⟩))
        · walk_at "subs"
          all_goals (first | rfl | (congr 1))
        · have : dstrs ((w.take (k + 1)).map groupF) = dstrs ((w.take k).map groupF) ++ [.str (groupF c)] := by
            rw [List.take_add_one, hc]; simp [dstrs]
          rw [this]; exact OSub.refl _
  · have hkw : k = w.length := Nat.le_antisymm hk hge
    subst hkw
    refine ex_if (c := true) (tstE (b := ((2 * w.length + 1 : Nat) : Int) == (2 * w.length + 1 : Nat)) ?_ (by simp)) (fun _ => ?_) (fun h => by cases h)
    · repeat' (walk_at "one")
    refine ex_add (a := a) (ds := dstrs ((w.take w.length).map groupF)) (d := .str (S ".*")) rfl ?_ (OSet.head _) (evAll_cons (by intro _ _ h; cases h) (ev_litE rfl) evAll_nil) rfl (small ?_) rfl rfl ?_
    · repeat' (walk_at "one")
    · rw [dstrs, List.length_map, List.length_map, List.length_take]; omega
    refine ex_brk ⟨[("i", .int (2 * w.length + 1 : Nat)), ("n", .int (2 * w.length + 1 : Nat)), ("res", own a)], [(a, .list (dstrs (w.map groupF ++ [S ".*"])))], ?_, ?_, rfl, ?_⟩
    · walk_at "subs"
    · have : dstrs (w.map groupF ++ [S ".*"]) = dstrs ((w.take w.length).map groupF) ++ [.str (S ".*")] := by
        rw [List.take_length]; simp [dstrs]
      rw [this]; exact OSub.refl _
    have hgl : ∀ c, (groupF c).length ≤ 11 := fun c => by
      have := tokF_len c
      have h6 : (S "(?>.*?").length = 6 := rfl
      simp [groupF]; omega
    have hj : joinL [] (w.map groupF ++ [S ".*"]) = restF w := by
      rw [joinL_nil, List.flatten_append, ← List.flatMap_def]; simp [restF]
    refine ex_assert (c := true) (tstE (b := ((2 * w.length + 1 : Nat) : Int) == (2 * w.length + 1 : Nat)) ?_ (by simp)) rfl ?_
    · repeat' (walk_at "one")
    refine ex_freeze_head "res" (a := a) (ds := dstrs (w.map groupF ++ [S ".*"])) (by walk_at "lk") ha ?_
    refine ex_assign (d := .str (restF w)) (by kernel_rfl) rfl (ev_eq (d' := .str (joinL [] (w.map groupF ++ [S ".*"]))) (ev_join rfl rfl (ev_litE (l := []) rfl) ?_ ?_) (by rw [hj])) ?_
    · repeat' (walk_at "one")
    · refine Nat.le_trans (sum_le _ 11 _ fun p hp => ?_) (show _ ≤ 1000000 from ?_)
      · rcases List.mem_append.mp hp with h | h
        · obtain ⟨c, _, rfl⟩ := List.mem_map.mp h; exact hgl c
        · rw [List.mem_singleton.mp h]; decide
      · simp; omega
    have hr := restF_len w
    refine ex_ret (d := .str [S "(?s:", restF w, S ")\\Z"].flatten) (ev_fstr (evj_cons (ev_litE rfl) (evj_cons (ev_fval ?_ (small (by omega))) (evj_cons (ev_litE rfl) evj_nil))) (small ?_)) ?_
    · repeat' (walk_at "one")
    · have h4 : (S "(?s:").length = 4 := rfl
      have h3 : (S ")\\Z").length = 3 := rfl
      simp; omega
    · show D.str _ = D.str _
      rw [transF_eq]; simp
end
section
variable {P : Params} {G : Gd} (hK : G.K = K01 P)
noncomputable def reescF (c : Nat) : List Nat := if specialF c then [92, c] else [c]
theorem specials_dict : isIntDict (K01 P) 52 = true := by kernel_rfl
theorem specials_find (c : Nat) (hc : c ∈ stock) : (specialF c = true ∧ ∃ t, findBy Value.isInt (dictEs (K01 P) 52) (c : Int) = some (.str (tx [92, c]) t)) ∨ (specialF c = false ∧ findBy Value.isInt (dictEs (K01 P) 52) (c : Int) = none) := by
  have e : c ∈ [97, 33, 34] ∨ c ∈ [42, 63, 91, 93, 45, 46, 94, 126, 38, 35, 32, 92, 10] := by revert c; decide
  rcases e with e | e
  · refine .inr ?_
    simp only [List.mem_cons, List.not_mem_nil, or_false] at e
    rcases e with rfl | rfl | rfl <;> exact ⟨rfl, rfl⟩
  · refine .inl ?_
    simp only [List.mem_cons, List.not_mem_nil, or_false] at e
    rcases e with rfl | rfl | rfl | rfl | rfl | rfl | rfl | rfl | rfl | rfl | rfl | rfl | rfl <;> exact ⟨rfl, _, rfl⟩
include hK
set_option maxHeartbeats 1000000
theorem escape_is (c : Nat) (hc : c ∈ stock) : FnIs G 40 (.ref 62) [.str [c]] (.str (reescF c)) := by
  have hc1 : c < 128 := by revert c; decide
  refine fn_K hK [("pattern", .str [c])] rfl rfl rfl ?_ rfl rfl rfl rfl rfl rfl rfl rfl ?_
  · intro vs hv; obtain ⟨a, rfl⟩ := len1 hv; kernel_rfl
  intro X L
  refine ex_if (c := true) (tst_plain (d := .bool true) rfl (ev_callB (id := "isinstance") (ds := [.str [c], .raw (.type "str")]) ?_ ?_ rfl tst_isinstance_str rfl) truth_bool) (fun _ => ?_) (fun h => by cases h)
  · repeat' (walk_at "one")
  · repeat' (walk_at "one")
  refine ex_ret (d := .str (reescF c)) (ev_meth (d₀ := .str [c]) (ds := [.raw (.ref 52)]) ?_ (meth_str F.slot_str_translate F.type_str_translate) (evAll_cons (by intro _ _ h; cases h) ?_ evAll_nil) rfl ?_ rfl) rfl
  · repeat' (walk_at "one")
  · repeat' (walk_at "one")
  · rcases specials_find (P := P) c hc with ⟨e, h⟩ | ⟨e, h⟩
    · have e2 : reescF c = [92, c] := by unfold reescF; rw [e]; rfl
      rw [e2]
      exact fn_translate_text hc1 (by rw [hK]; exact specials_dict) (by rw [hK]; exact h)
    · have e2 : reescF c = [c] := by unfold reescF; rw [e]; rfl
      rw [e2]
      exact fn_translate_keep hc1 (by decide) (by rw [hK]; exact specials_dict) (by rw [hK]; exact h)
end
noncomputable def preF (w : List Nat) : List Nat := w.flatMap fun c => 42 :: bracketF c
noncomputable def resF (st : Addr) (w : List Nat) : List D := w.flatMap fun c => ([own st, D.str (tokF c)] : List D)
theorem patternF_pre (w : List Nat) (h : w ≠ []) : patternF w = preF w ++ [42] := by
  unfold patternF preF
  cases w with
  | nil => exact absurd rfl h
  | cons c w =>
    have : ∀ qs : List Nat, (qs.map bracketF).flatMap (fun q => 42 :: q) = qs.flatMap fun c => 42 :: bracketF c := fun qs => by
      induction qs with
      | nil => rfl
      | cons q qs ih => simp only [List.map_cons, List.flatMap_cons, ih]
    simp only [List.map_cons, joinL, List.flatMap_cons, List.cons_append, List.nil_append, this]
theorem partsF_res (st : Addr) (w : List Nat) : partsF st w = resF st w ++ [own st] := by
  unfold partsF resF
  induction w with
  | nil => rfl
  | cons c w ih => simp only [List.flatMap_cons, List.cons_append, List.nil_append] at ih ⊢; rw [ih]
theorem preF_app (a b : List Nat) : preF (a ++ b) = preF a ++ preF b := by unfold preF; rw [List.flatMap_append]
theorem resF_app (st : Addr) (a b : List Nat) : resF st (a ++ b) = resF st a ++ resF st b := by unfold resF; rw [List.flatMap_append]
theorem bracketF_len (c : Nat) : (bracketF c).length ≤ 3 := by unfold bracketF; split <;> simp
theorem preF_len (w : List Nat) : (preF w).length ≤ w.length * 4 := flatMap_le _ 4 w fun c _ => by have := bracketF_len c; simp; omega
theorem resF_len (st : Addr) (w : List Nat) : (resF st w).length = 2 * w.length := by
  unfold resF
  induction w with
  | nil => rfl
  | cons c w ih => rw [List.flatMap_cons, List.length_append, ih, List.length_cons]; simp; omega
theorem itemS {l : List Nat} {i c : Nat} (hc : l[i]? = some c) (h : l.length ≤ 1000000) : ItemIs (.str l) (.int (i : Nat)) (.str [c]) := by
  have hi : i < l.length := by rcases Nat.lt_or_ge i l.length with q | q; exact q; rw [List.getElem?_eq_none q] at hc; cases hc
  have := item_str0 (l := l) (i := (i : Int)) ⟨by omega, by omega⟩ (by omega)
  have e : l.getD (i : Int).toNat 0 = c := by simp [List.getD, hc]
  rwa [e] at this
theorem cut_pos (a m b : List Nat) (i j : Nat) (hi : a.length = i) (hj : i + m.length = j) : cut (a ++ (m ++ b)) (some (i : Int)) (some (j : Int)) = m := by
  subst hi hj
  have c1 : clipAt (a ++ (m ++ b)).length (a.length : Int) = a.length := clip_a a (m ++ b)
  have c2 : clipAt (a ++ (m ++ b)).length ((a.length + m.length : Nat) : Int) = a.length + m.length := by rw [clip_nat, List.length_append, List.length_append, ← Nat.add_assoc, Nat.min_eq_left (Nat.le_add_right _ _)]
  unfold cut
  simp only [Option.elim]
  rw [c1, c2, List.drop_left, Nat.add_sub_cancel_left, List.take_left]
noncomputable def plainLam (args : Arguments) (scope : Scope) : Bool := args.defaults.isEmpty && args.kw_defaults.isEmpty && args.kwonlyargs.isEmpty && scope.names.all fun x => x.2 == .local
noncomputable def SubIs (P : Params) (G : Gd) : Prop := ∀ {L : Addr} {c : Nat} {ρ : Loc} {ow : Own} {rest : List Stmt} {bs : List (List Stmt)} {o : Out} {args : Arguments} {body : Expr} {scope : Scope} {p1 p2 p3 p4 p5 p6 p7 : Pos},
  c ∈ [42, 63, 91] → ρ.lookup ("stuff" : Str) = some (D.str [c]) → (64, pit) ∈ ow → plainLam args scope = true → p3.endLine = p6.line → Ex G 50 (callEnvC (fnAt (K01 P) 69) L 69) (("stuff", .str [c]) :: ρ) ow (rest :: bs) o →
  Ex G 50 (callEnvC (fnAt (K01 P) 69) L 69) ρ ow ((.Assign [.Name "stuff" p1] (.Call (.Attribute (.Name "_twin_re_1" p2) "sub" p3) [.Lambda args body scope p4, .Name "stuff" p5] [] p6) p7 :: rest) :: bs) o
section
variable {P : Params} {G : Gd} (hK : G.K = K01 P) (hsub : SubIs P G)
include hK hsub
set_option maxHeartbeats 2000000
theorem transbody_is (st : Addr) (w : List Nat) (hne : w ≠ []) (hw : w.length ≤ 50) (hws : ∀ c ∈ w, c ∈ stock) : ∃ body, (fnAt (K01 P) 69).body = .stmts body ∧ ∀ X L, Ex G 50 (callEnvC (fnAt (K01 P) 69) L 69) [("pat", .str (patternF w)), ("STAR", own st), ("QUESTION_MARK", .str [46])] [(64, pit)] [body] (Out.fnT X (.list (partsF st w)) 64) := by
  refine ⟨_, rfl, fun X L => ?_⟩
  have hpl := preF_len w
  have hpat := patternF_pre w hne
  have hlen : (patternF w).length = (preF w).length + 1 := by rw [hpat]; simp
  refine ex_newlist (by kernel_rfl) rfl fun a ha => ?_
  refine ex_assign (d := .bm "list.append" a) (by kernel_rfl) rfl (ev_bound (ds := []) rfl (fun _ _ => rfl) ?_ (List.mem_cons_self ..)) ?_
  · repeat' (walk_at "one")
  refine ex_pair_sw (d := .tup [.int 0, .int (patternF w).length]) (by kernel_rfl) (by kernel_rfl) rfl rfl (ev_tup (evAll_cons (by intro _ _ h; cases h) ev_int (evAll_cons (by intro _ _ h; cases h) (ev_callB (ds := [.str (patternF w)]) ?_ ?_ rfl (fn_len_str (by omega)) rfl) evAll_nil)) (small (by simp))) unp_tup ?_
  · repeat' (walk_at "one")
  · repeat' (walk_at "one")
  refine ex_while (σ := (List Nat × List Nat) × Bool) (fun b => [("i", .int ((preF b.1.1).length + (if b.2 then 1 else 0) : Nat)), ("n", .int (patternF w).length), ("add", .bm "list.append" a), ("res", own a), ("pat", .str (patternF w)), ("STAR", own st), ("QUESTION_MARK", .str [46])]) (fun b => [(a, .list (if b.2 then resF st b.1.1 ++ [own st] else resF st b.1.1)), (64, pit)]) (fun b => b.1.1 ++ b.1.2 = w) (fun b => 2 * b.1.2.length + (if b.2 then 0 else 1)) (fun b => !(b.2 && b.1.2.isEmpty)) (([], w), false) rfl ?_ (OSub.refl _) (fun _ => rfl) (fun b hb => ?_) (fun b hb hc => ?_) (fun b hb hc => ?_)
  · walk_at "subs"
    rfl
  · obtain ⟨⟨done, todo⟩, tok⟩ := b
    have hw2 : done ++ todo = w := hb
    have e2 : (preF w).length = (preF done).length + (preF todo).length := by rw [← hw2, preF_app, List.length_append]
    refine tstE (b := decide ((((preF done).length + (if tok then 1 else 0) : Nat) : Int) < (patternF w).length)) ?_ ?_
    · repeat' (walk_at "one")
    · cases tok with
      | false => simp; omega
      | true =>
        cases todo with
        | nil => simp only [show preF [] = [] from rfl, List.length_nil] at e2; simp; omega
        | cons c r =>
          have : (preF (c :: r)).length = (bracketF c).length + 1 + (preF r).length := by simp [preF]; omega
          simp; omega
  · obtain ⟨⟨done, todo⟩, tok⟩ := b
    have hw2 : done ++ todo = w := hb
    have hdl : done.length ≤ 50 := by have := congrArg List.length hw2; simp at this; omega
    have hrl := resF_len st done
    have hpd := preF_len done
    have hpatd : patternF w = preF done ++ (preF todo ++ [42]) := by rw [hpat, ← hw2, preF_app, List.append_assoc]
    cases tok with
    | false =>
      show Ex G _ _ [("i", .int ((preF done).length + 0 : Nat)), ("n", .int (patternF w).length), ("add", .bm "list.append" a), ("res", own a), ("pat", .str (patternF w)), ("STAR", own st), ("QUESTION_MARK", .str [46])] [(a, .list (resF st done)), (64, pit)] _ _
      have h42 : (patternF w)[(preF done).length + 0]? = some 42 := by
        rw [hpatd, Nat.add_zero, List.getElem?_append_right (Nat.le_refl _), Nat.sub_self]
        cases todo with
        | nil => rfl
        | cons c r => rfl
      refine ex_assign (d := .str [42]) (by kernel_rfl) rfl (ev_item rfl ?_ ?_ (itemS h42 (by omega))) ?_
      · repeat' (walk_at "one")
      · repeat' (walk_at "one")
      refine ex_assign (d := .int ((preF done).length + 1 : Nat)) (by kernel_rfl) rfl (ev_eq (d' := .int (((preF done).length + 0 : Nat) + 1)) ?_ (by simp)) ?_
      · repeat' (walk_at "one")
      refine ex_if (c := true) (tst_cmp (n := 42) rfl (d₁ := .str [42]) (d₂ := .str [42]) ?_ (ev_litE rfl) cmp_eq_str) (fun _ => ?_) (fun h => by cases h)
      · repeat' (walk_at "one")
      refine ex_if (c := true) (tst_freeze_head "res" (a := a) (ds := resF st done) (by walk_at "lk") ?_) (fun _ => ?_) (fun h => by cases h)
      · rcases List.eq_nil_or_concat done with rfl | ⟨d', c', rfl⟩
        · refine tst_or_yes (tst_not (b := false) (tst_plain (d := .list (resF st [])) rfl ?_ (truth_list (show 0 < 2 ^ 62 by decide))))
          repeat' (walk_at "one")
        · have hl : (resF st (d'.concat c')).getLast? = some (.str (tokF c')) := by rw [List.concat_eq_append, resF_app]; simp [resF]
          refine tst_or_no (tst_not (b := true) (tst_plain (d := .list (resF st (d'.concat c'))) rfl ?_ ?_)) (tst_or_yes (tst_cmp (n := 42) rfl (d₁ := .str (tokF c')) (d₂ := own st) (ev_item rfl ?_ ev_neg (item_listN hl (by omega))) ?_ cmp_isnot_str))
          · repeat' (walk_at "one")
          · have := truth_list (ds := resF st (d'.concat c')) (by omega)
            have e : (!(resF st (d'.concat c')).isEmpty) = true := by rw [List.concat_eq_append, resF_app]; simp [resF]
            rwa [e] at this
          · repeat' (walk_at "one")
          · repeat' (walk_at "one")
      refine ex_add (a := a) (ds := resF st done) (d := own st) rfl ?_ (OSet.head _) (evAll_cons (by intro _ _ h; cases h) ?_ evAll_nil) rfl (small (by omega)) rfl rfl ?_
      · repeat' (walk_at "one")
      · repeat' (walk_at "one")
      refine ex_nil (ex_nil (ex_nil (ex_end ⟨((done, todo), true), hb, ?_, ?_, OSub.refl _⟩)))
      · show 2 * todo.length + 0 < 2 * todo.length + 1
        omega
      · walk_at "subs"
        all_goals (first | rfl | (congr 1))
    | true =>
      cases todo with
      | nil => cases hc
      | cons c r =>
        have hcs : c ∈ stock := hws c (by rw [← hw2]; simp)
        have htl := tokF_len c
        have hlen2 : done.length + (r.length + 1) = w.length := by have := congrArg List.length hw2; simpa using this
        have hpr := preF_len r
        have hpat2 : patternF w = preF done ++ (42 :: (bracketF c ++ (preF r ++ [42]))) := by
          rw [hpatd]; congr 1
          simp [preF]
        have get : ∀ k x, (42 :: (bracketF c ++ (preF r ++ [42])))[k]? = some x → (patternF w)[(preF done).length + k]? = some x := fun k x h => by
          rw [hpat2, List.getElem?_append_right (by omega), Nat.add_sub_cancel_left]; exact h
        have hpc : (preF (done ++ [c])).length = (preF done).length + (bracketF c).length + 1 := by rw [preF_app, List.length_append]; simp [preF]; omega
        have hrc : resF st (done ++ [c]) = (resF st done ++ [own st]) ++ [.str (tokF c)] := by rw [resF_app, List.append_assoc]; rfl
        have hplen : (patternF w).length = (preF done).length + (1 + ((bracketF c).length + ((preF r).length + 1))) := by rw [hpat2]; simp; omega
        show Ex G _ _ [("i", .int ((preF done).length + 1 : Nat)), ("n", .int (patternF w).length), ("add", .bm "list.append" a), ("res", own a), ("pat", .str (patternF w)), ("STAR", own st), ("QUESTION_MARK", .str [46])] [(a, .list (resF st done ++ [own st])), (64, pit)] _ _
        by_cases hbr : c ∈ [42, 63, 91]
        · have hb2 : bracketF c = [91, c, 93] := by unfold bracketF; simp at hbr; rcases hbr with h | h | h <;> simp [h]
          have hb3 : (bracketF c).length = 3 := by rw [hb2]; rfl
          refine ex_assign (d := .str [91]) (by kernel_rfl) rfl (ev_item rfl ?_ ?_ (itemS (get 1 91 (by rw [hb2]; rfl)) (by omega))) ?_
          · repeat' (walk_at "one")
          · repeat' (walk_at "one")
          refine ex_assign (d := .int ((preF done).length + 2 : Nat)) (by kernel_rfl) rfl (ev_eq (d' := .int (((preF done).length + 1 : Nat) + 1)) ?_ (by simp; omega)) ?_
          · repeat' (walk_at "one")
          refine ex_if (c := false) (tst_cmp (n := 42) rfl (d₁ := .str [91]) (d₂ := .str [42]) ?_ (ev_litE rfl) cmp_eq_str) (fun h => by cases h) (fun _ => ?_)
          · repeat' (walk_at "one")
          refine ex_if (c := false) (tst_cmp (n := 42) rfl (d₁ := .str [91]) (d₂ := .str [63]) ?_ (ev_litE rfl) cmp_eq_str) (fun h => by cases h) (fun _ => ?_)
          · repeat' (walk_at "one")
          refine ex_if (c := true) (tst_cmp (n := 42) rfl (d₁ := .str [91]) (d₂ := .str [91]) ?_ (ev_litE rfl) cmp_eq_str) (fun _ => ?_) (fun h => by cases h)
          · repeat' (walk_at "one")
          refine ex_assign (d := .int ((preF done).length + 2 : Nat)) (by kernel_rfl) rfl ?_ ?_
          · repeat' (walk_at "one")
          have g2 := get 2 c (by rw [hb2]; rfl)
          have g3 := get 3 93 (by rw [hb2]; rfl)
          have n33 : ([c] == [33]) = false := by simp at hbr ⊢; omega
          have n93 : ([c] == [93]) = false := by simp at hbr ⊢; omega
          refine ex_if (c := false) (tst_and_yes (tstE (b := decide ((((preF done).length + 2 : Nat) : Int) < (patternF w).length)) ?_ (by simp; omega)) (tst_and_no (tstE (b := [c] == [33]) (tst_cmp (n := 42) rfl (d₁ := .str [c]) (d₂ := .str [33]) (ev_item rfl ?_ ?_ (itemS g2 (by omega))) (ev_litE rfl) cmp_eq_str) n33))) (fun h => by cases h) (fun _ => ex_nil ?_)
          · repeat' (walk_at "one")
          · repeat' (walk_at "one")
          · repeat' (walk_at "one")
          refine ex_if (c := false) (tst_and_yes (tstE (b := decide ((((preF done).length + 2 : Nat) : Int) < (patternF w).length)) ?_ (by simp; omega)) (tst_and_no (tstE (b := [c] == [93]) (tst_cmp (n := 42) rfl (d₁ := .str [c]) (d₂ := .str [93]) (ev_item rfl ?_ ?_ (itemS g2 (by omega))) (ev_litE rfl) cmp_eq_str) n93))) (fun h => by cases h) (fun _ => ex_nil ?_)
          · repeat' (walk_at "one")
          · repeat' (walk_at "one")
          · repeat' (walk_at "one")
          refine ex_while (σ := Bool) (fun j => [("j", .int ((preF done).length + (if j then 3 else 2) : Nat)), ("i", .int ((preF done).length + 2 : Nat)), ("n", .int (patternF w).length), ("add", .bm "list.append" a), ("res", own a), ("pat", .str (patternF w)), ("STAR", own st), ("QUESTION_MARK", .str [46])]) (fun j => [(a, .list (resF st done ++ [own st])), (64, pit)]) (fun _ => True) (fun j => if j then 0 else 1) (fun j => !j) false trivial ?_ (OSub.refl _) (fun _ => rfl) (fun j _ => ?_) (fun j _ hj => ?_) (fun j _ hj => ?_)
          · walk_at "subs"
            all_goals rfl
          · cases j with
            | false =>
              show Tst G _ _ [("j", .int ((preF done).length + 2 : Nat)), ("i", .int ((preF done).length + 2 : Nat)), ("n", .int (patternF w).length), ("add", .bm "list.append" a), ("res", own a), ("pat", .str (patternF w)), ("STAR", own st), ("QUESTION_MARK", .str [46])] _ _ true
              refine tst_and_yes (tstE (b := decide ((((preF done).length + 2 : Nat) : Int) < (patternF w).length)) ?_ (by simp; omega)) (tst_and_yes (tstE (b := [c] != [93]) (tst_cmp (n := 42) rfl (d₁ := .str [c]) (d₂ := .str [93]) (ev_item rfl ?_ ?_ (itemS g2 (by omega))) (ev_litE rfl) cmp_ne_str) (by show (!([c] == [93])) = true; rw [n93]; rfl)) tst_and_nil)
              all_goals (repeat' (walk_at "one"))
            | true =>
              show Tst G _ _ [("j", .int ((preF done).length + 3 : Nat)), ("i", .int ((preF done).length + 2 : Nat)), ("n", .int (patternF w).length), ("add", .bm "list.append" a), ("res", own a), ("pat", .str (patternF w)), ("STAR", own st), ("QUESTION_MARK", .str [46])] _ _ false
              refine tst_and_yes (tstE (b := decide ((((preF done).length + 3 : Nat) : Int) < (patternF w).length)) ?_ (by simp; omega)) (tst_and_no (tst_cmp (n := 42) rfl (d₁ := .str [93]) (d₂ := .str [93]) (ev_item rfl ?_ ?_ (itemS g3 (by omega))) (ev_litE rfl) cmp_ne_str))
              all_goals (repeat' (walk_at "one"))
          · cases j with
            | true => cases hj
            | false =>
              show Ex G _ _ [("j", .int ((preF done).length + 2 : Nat)), ("i", .int ((preF done).length + 2 : Nat)), ("n", .int (patternF w).length), ("add", .bm "list.append" a), ("res", own a), ("pat", .str (patternF w)), ("STAR", own st), ("QUESTION_MARK", .str [46])] [(a, .list (resF st done ++ [own st])), (64, pit)] _ _
              refine ex_assign (d := .int ((preF done).length + 3 : Nat)) (by kernel_rfl) rfl (ev_eq (d' := .int (((preF done).length + 2 : Nat) + 1)) ?_ (by simp; omega)) ?_
              · repeat' (walk_at "one")
              refine ex_nil (ex_end ⟨true, trivial, by decide, ?_, OSub.refl _⟩)
              walk_at "subs"
              all_goals rfl
          · cases j with
            | false => cases hj
            | true =>
              show Ex G _ _ [("j", .int ((preF done).length + 3 : Nat)), ("i", .int ((preF done).length + 2 : Nat)), ("n", .int (patternF w).length), ("add", .bm "list.append" a), ("res", own a), ("pat", .str (patternF w)), ("STAR", own st), ("QUESTION_MARK", .str [46])] [(a, .list (resF st done ++ [own st])), (64, pit)] _ _
              refine ex_if (c := false) (tstE (b := decide ((((preF done).length + 3 : Nat) : Int) ≥ (patternF w).length)) ?_ (by simp; omega)) (fun h => by cases h) (fun _ => ?_)
              · repeat' (walk_at "one")
              have hcut : cut (patternF w) (some ((preF done).length + 2 : Nat)) (some ((preF done).length + 3 : Nat)) = [c] := by
                have e : patternF w = (preF done ++ [42, 91]) ++ ([c] ++ (93 :: (preF r ++ [42]))) := by rw [hpat2, hb2]; simp
                rw [e]
                exact cut_pos _ _ _ _ _ (by simp) (by simp)
              refine ex_assign (d := .str [c]) (by kernel_rfl) rfl (ev_eq (d' := .str (cut (patternF w) (some ((preF done).length + 2 : Nat)) (some ((preF done).length + 3 : Nat)))) (ev_cut_str ?_ (evp_some ?_) (evp_some ?_) (small (by omega))) (by rw [hcut])) ?_
              · repeat' (walk_at "one")
              · repeat' (walk_at "one")
              · repeat' (walk_at "one")
              have n45 : (!decide (45 ∈ [c])) = true := by simp at hbr ⊢; omega
              refine ex_if (c := true) (tstE (b := !decide (45 ∈ [c])) (tst_cmp (n := 42) rfl (d₁ := .str [45]) (d₂ := .str [c]) (ev_litE rfl) ?_ cmp_notin_str) n45) (fun _ => ?_) (fun h => by cases h)
              · repeat' (walk_at "one")
              refine ex_assign (d := .str [c]) (by kernel_rfl) rfl (ev_replace_none rfl rfl ?_ (ev_litE (l := [92]) rfl) (ev_litE (l := [92, 92]) rfl) (by simp at hbr ⊢; omega)) ?_
              · repeat' (walk_at "one")
              refine ex_nil ?_
              refine hsub hbr (by walk_at "lk") (List.mem_cons_of_mem _ (List.mem_cons_self ..)) rfl rfl ?_
              refine ex_assign (d := .int ((preF done).length + 4 : Nat)) (by kernel_rfl) rfl (ev_eq (d' := .int (((preF done).length + 3 : Nat) + 1)) ?_ (by simp; omega)) ?_
              · repeat' (walk_at "one")
              refine ex_if (c := false) (tst_not (b := true) (tst_plain (d := .str [c]) rfl ?_ (truth_str (l := [c]) (show 1 < 2 ^ 62 by decide)))) (fun h => by cases h) (fun _ => ?_)
              · repeat' (walk_at "one")
              refine ex_if (c := false) (tstE (b := [c] == [33]) (tst_cmp (n := 42) rfl (d₁ := .str [c]) (d₂ := .str [33]) ?_ (ev_litE rfl) cmp_eq_str) n33) (fun h => by cases h) (fun _ => ?_)
              · repeat' (walk_at "one")
              refine ex_if (c := false) (tstE (b := [c] == [33]) (tst_cmp (n := 42) rfl (d₁ := .str [c]) (d₂ := .str [33]) (ev_item rfl ?_ ?_ (itemS (l := [c]) (i := 0) rfl (by simp))) (ev_litE rfl) cmp_eq_str) n33) (fun h => by cases h) (fun _ => ?_)
              · repeat' (walk_at "one")
              · exact ev_int
              by_cases h91 : c = 91
              · have htok : tokF c = [91, 92, c, 93] := by subst h91; rfl
                have hin : ([[94], [91]] : List (List Nat)).contains [c] = true := by subst h91; rfl
                refine ex_if (c := true) (tst_cmp (n := 42) rfl (d₁ := .str [c]) (d₂ := .tup (dstrs [[94], [91]])) (ev_item rfl ?_ ?_ (itemS (l := [c]) (i := 0) rfl (by simp))) (ev_tup ?_ (by decide)) (cmp_in_tupE hin)) (fun _ => ?_) (fun h => by cases h)
                · repeat' (walk_at "one")
                · exact ev_int
                · show EvAll G _ _ _ _ _ [.str [94], .str [91]]
                  repeat' (walk_at "one")
                refine ex_assign (d := .str ([92] ++ [c])) (by kernel_rfl) rfl (ev_binop (ev_litE (l := [92]) rfl) ?_ (bin_cat' (by simp))) ?_
                · repeat' (walk_at "one")
                refine ex_nil (ex_nil ?_)
                refine ex_add (a := a) (ds := resF st done ++ [own st]) (d := .str (tokF c)) rfl ?_ (OSet.head _) (evAll_cons (by intro _ _ h; cases h) (ev_eq (d' := .str [[91], [92] ++ [c], [93]].flatten) (ev_fstr (evj_cons (ev_litE rfl) (evj_cons (ev_fval ?_ (small (by simp))) (evj_cons (ev_litE rfl) evj_nil))) (small (by simp))) (by rw [htok]; rfl)) evAll_nil) rfl (small (by simp; omega)) rfl rfl ?_
                · repeat' (walk_at "one")
                · repeat' (walk_at "one")
                refine ex_nil <| ex_nil <| ex_nil <| ex_nil <| ex_nil <| ex_nil <| ex_nil (ex_end ⟨((done ++ [c], r), false), ?_, ?_, ?_, ?_⟩)
                · show done ++ [c] ++ r = w
                  rw [← hw2]; simp
                · show 2 * r.length + 1 < 2 * (r.length + 1) + 0
                  omega
                · walk_at "subs"
                  all_goals (first | rfl | (show D.int _ = D.int _; congr 1; show ((_ : Nat) : Int) = ((_ : Nat) : Int); congr 1; show _ = (preF (done ++ [c])).length + 0; omega))
                · show OSub [(a, .list (resF st (done ++ [c]))), (64, pit)] _
                  rw [hrc]; exact OSub.refl _
              · have htok : tokF c = [91, c, 93] := by simp [h91] at hbr; rcases hbr with h | h <;> (subst h; rfl)
                have hin : ([[94], [91]] : List (List Nat)).contains [c] = false := by simp [h91] at hbr; rcases hbr with h | h <;> (subst h; rfl)
                refine ex_if (c := false) (tst_cmp (n := 42) rfl (d₁ := .str [c]) (d₂ := .tup (dstrs [[94], [91]])) (ev_item rfl ?_ ?_ (itemS (l := [c]) (i := 0) rfl (by simp))) (ev_tup ?_ (by decide)) (cmp_in_tupE hin)) (fun h => by cases h) (fun _ => ?_)
                · repeat' (walk_at "one")
                · exact ev_int
                · show EvAll G _ _ _ _ _ [.str [94], .str [91]]
                  repeat' (walk_at "one")
                refine ex_nil (ex_nil ?_)
                refine ex_add (a := a) (ds := resF st done ++ [own st]) (d := .str (tokF c)) rfl ?_ (OSet.head _) (evAll_cons (by intro _ _ h; cases h) (ev_eq (d' := .str [[91], [c], [93]].flatten) (ev_fstr (evj_cons (ev_litE rfl) (evj_cons (ev_fval ?_ (small (by simp))) (evj_cons (ev_litE rfl) evj_nil))) (small (by simp))) (by rw [htok]; rfl)) evAll_nil) rfl (small (by simp; omega)) rfl rfl ?_
                · repeat' (walk_at "one")
                · repeat' (walk_at "one")
                refine ex_nil <| ex_nil <| ex_nil <| ex_nil <| ex_nil <| ex_nil <| ex_nil (ex_end ⟨((done ++ [c], r), false), ?_, ?_, ?_, ?_⟩)
                · show done ++ [c] ++ r = w
                  rw [← hw2]; simp
                · show 2 * r.length + 1 < 2 * (r.length + 1) + 0
                  omega
                · walk_at "subs"
                  all_goals (first | rfl | (show D.int _ = D.int _; congr 1; show ((_ : Nat) : Int) = ((_ : Nat) : Int); congr 1; show _ = (preF (done ++ [c])).length + 0; omega))
                · show OSub [(a, .list (resF st (done ++ [c]))), (64, pit)] _
                  rw [hrc]; exact OSub.refl _
        · have hb2 : bracketF c = [c] := by unfold bracketF; simp at hbr; simp [hbr]
          have hb3 : (bracketF c).length = 1 := by rw [hb2]; rfl
          have htok : tokF c = reescF c := by unfold tokF reescF; simp at hbr; simp [hbr]
          refine ex_assign (d := .str [c]) (by kernel_rfl) rfl (ev_item rfl ?_ ?_ (itemS (get 1 c (by rw [hb2]; rfl)) (by omega))) ?_
          · repeat' (walk_at "one")
          · repeat' (walk_at "one")
          refine ex_assign (d := .int ((preF done).length + 2 : Nat)) (by kernel_rfl) rfl (ev_eq (d' := .int (((preF done).length + 1 : Nat) + 1)) ?_ (by simp; omega)) ?_
          · repeat' (walk_at "one")
          refine ex_if (c := false) (tstE (b := [c] == [42]) (tst_cmp (n := 42) rfl (d₁ := .str [c]) (d₂ := .str [42]) ?_ (ev_litE rfl) cmp_eq_str) (by simp at hbr ⊢; omega)) (fun h => by cases h) (fun _ => ?_)
          · repeat' (walk_at "one")
          refine ex_if (c := false) (tstE (b := [c] == [63]) (tst_cmp (n := 42) rfl (d₁ := .str [c]) (d₂ := .str [63]) ?_ (ev_litE rfl) cmp_eq_str) (by simp at hbr ⊢; omega)) (fun h => by cases h) (fun _ => ?_)
          · repeat' (walk_at "one")
          refine ex_if (c := false) (tstE (b := [c] == [91]) (tst_cmp (n := 42) rfl (d₁ := .str [c]) (d₂ := .str [91]) ?_ (ev_litE rfl) cmp_eq_str) (by simp at hbr ⊢; omega)) (fun h => by cases h) (fun _ => ?_)
          · repeat' (walk_at "one")
          refine ex_add (a := a) (ds := resF st done ++ [own st]) (d := .str (tokF c)) rfl ?_ (OSet.head _) (evAll_cons (by intro _ _ h; cases h) (ev_call (f := 62) (ds := [.str [c]]) ?_ ?_ ?_ rfl (by rw [htok]; exact (escape_is hK c hcs).le (by decide)) rfl) evAll_nil) rfl (small (by simp; omega)) rfl rfl ?_
          · repeat' (walk_at "one")
          · repeat' (walk_at "one")
          · rw [hK]; rfl
          · repeat' (walk_at "one")
          refine ex_nil (ex_nil (ex_nil (ex_nil (ex_end ⟨((done ++ [c], r), false), ?_, ?_, ?_, ?_⟩))))
          · show done ++ [c] ++ r = w
            rw [← hw2]; simp
          · show 2 * r.length + 1 < 2 * (r.length + 1) + 0
            omega
          · walk_at "subs"
            all_goals (first | rfl | (show D.int _ = D.int _; congr 1; show ((_ : Nat) : Int) = ((_ : Nat) : Int); congr 1; show _ = (preF (done ++ [c])).length + 0; omega))
          · show OSub [(a, .list (resF st (done ++ [c]))), (64, pit)] _
            rw [hrc]; exact OSub.refl _
  · obtain ⟨⟨done, todo⟩, tok⟩ := b
    cases tok with
    | false => cases hc
    | true =>
      cases todo with
      | cons c r => cases hc
      | nil =>
        have hw2 : done ++ [] = w := hb
        rw [List.append_nil] at hw2
        subst hw2
        have hrl := resF_len st done
        show Ex G _ _ [("i", .int ((preF done).length + 1 : Nat)), ("n", .int (patternF done).length), ("add", .bm "list.append" a), ("res", own a), ("pat", .str (patternF done)), ("STAR", own st), ("QUESTION_MARK", .str [46])] [(a, .list (resF st done ++ [own st])), (64, pit)] _ _
        refine ex_assert (c := true) (tstE (b := (((preF done).length + 1 : Nat) : Int) == (patternF done).length) ?_ (by simp; omega)) rfl ?_
        · repeat' (walk_at "one")
        refine ex_freeze_head "res" (a := a) (ds := resF st done ++ [own st]) (by walk_at "lk") ha ?_
        refine ex_ret (d := .list (resF st done ++ [own st])) ?_ ?_
        · repeat' (walk_at "one")
        · refine ⟨?_, List.mem_cons_self ..⟩
          show D.list _ = D.list _
          rw [partsF_res]
theorem trans_is (hH : G.H₀.get? 64 = none) (st : Addr) (w : List Nat) (hne : w ≠ []) (hw : w.length ≤ 50) (hws : ∀ c ∈ w, c ∈ stock) : FnIsT G 51 64 (.ref 69) [.str (patternF w), own st, .str [46]] (.list (partsF st w)) := by
  obtain ⟨body, hb, h⟩ := transbody_is hK hsub st w hne hw hws
  refine fnT_K hK [("pat", .str (patternF w)), ("STAR", own st), ("QUESTION_MARK", .str [46])] rfl rfl hb ?_ rfl rfl rfl rfl rfl rfl rfl rfl h hH
  intro vs hv; obtain ⟨a, b, c, rfl⟩ := len3 hv; kernel_rfl
end
section
variable {P : Params} {G : Gd} (hK : G.K = K01 P)
include hK
set_option maxHeartbeats 2000000
theorem sub_is : SubIs P G := by
  intro L c ρ ow rest bs o args body scope p1 p2 p3 p4 p5 p6 p7 hc hl hm hp hp2 h
  have hp' := hp
  unfold plainLam at hp'
  simp only [Bool.and_eq_true, List.isEmpty_iff, List.all_eq_true, beq_iff_eq] at hp'
  obtain ⟨⟨⟨h1, h2⟩, h3⟩, h4⟩ := hp'
  refine ex_resub (p := 43) (q := 42) (c := 68) (P := 64) (f := fun _ _ => none) (l := [c]) (by kernel_rfl) rfl (meth_eq rfl hp2 rfl) ?_ (by rw [hK]; kernel_rfl) (ev_name hl (by kernel_rfl) (by kernel_rfl)) (by kernel_rfl) (by rw [hK]; kernel_rfl) hm (fun q e => by cases e) ?_ ?_ ?_ (by simp) (by simp) h
  · repeat' (walk_at "one")
  · exact List.all_eq_true.mpr fun x hx => by rw [h4 x hx]; rfl
  · obtain ⟨a, b, c', d, e, g, i⟩ := args
    simp only at h1 h2
    subst h1 h2
    rfl
  · intro c' hc'
    rw [List.mem_singleton.mp hc']
    simp only [List.mem_cons, List.not_mem_nil, or_false] at hc
    rcases hc with rfl | rfl | rfl <;> rfl
theorem translate_is (hH : G.H₀.get? 64 = none) (w : List Nat) (hne : w ≠ []) (hw : w.length ≤ 8) (hs : ∀ c ∈ w, c ∈ stock) : FnIsT G 100 64 (.ref 50) [.str (patternF w)] (.str (transF w)) := by
  refine fnT_K hK [("pat", .str (patternF w))] rfl rfl rfl ?_ rfl rfl rfl rfl rfl rfl rfl rfl ?_ hH
  · intro vs hv; obtain ⟨a, rfl⟩ := len1 hv; kernel_rfl
  intro X L
  refine ex_object (by kernel_rfl) rfl ?_ fun st => ?_
  · repeat' (walk_at "one")
  refine ex_assignT (d := .list (partsF st w)) (by kernel_rfl) rfl (evT_call (a := 64) (f := 69) (ds := [.str (patternF w), own st, .str [46]]) ?_ ?_ (evAll_cons (by intro _ _ h; cases h) ?_ (evAll_cons (by intro _ _ h; cases h) ?_ (evAll_cons (by intro _ _ h; cases h) (ev_litE rfl) evAll_nil))) rfl ((trans_is hK (sub_is hK) hH st w hne (by omega) hs).le (by decide)) (List.mem_cons_self ..) rfl) ?_
  · repeat' (walk_at "one")
  · rw [hK]; rfl
  · repeat' (walk_at "one")
  · repeat' (walk_at "one")
  refine ex_ret (d := .str (transF w)) (ev_call (f := 76) (ds := [.list (partsF st w), own st]) ?_ ?_ ?_ rfl ((join_is hK st w (by omega)).le (by decide)) rfl) ⟨rfl, List.mem_cons_self ..⟩
  · repeat' (walk_at "one")
  · rw [hK]; rfl
  · repeat' (walk_at "one")
end
noncomputable def WS : List Nat := S "\n\t\r "
noncomputable abbrev lexNs (C : Addr) (line : Int) (din : D) (pb : Addr) : Loc := [("lineno", .int line), ("instream", din), ("whitespace", .str WS), ("pushback", own pb)]
section
variable {P : Params} {G : Gd} (hK : G.K = K01 P)
include hK
set_option maxHeartbeats 2000000
theorem init_is (dx : Addr) (din : D) : FnG G 20 (.ref 171) [.inst 195 dx, din] [(dx, .ns [])] (fun d c' => d = .none ∧ ∃ pb, c' = [(pb, .list []), (dx, .ns (lexNs 195 1 din pb))]) := by
  refine fnG_K hK [("self", .inst 195 dx), ("fp", din)] [(dx, .ns [])] (R' := fun _ d _ c' => d = .none ∧ ∃ pb, c' = [(pb, .list []), (dx, .ns (lexNs 195 1 din pb))]) rfl rfl rfl ?_ rfl rfl rfl rfl rfl rfl rfl rfl ?_ ?_
  · intro vs hv; obtain ⟨a, b, rfl⟩ := len2 hv; kernel_rfl
  · intro G' hK' _ X L
    refine ex_setattr (C := 195) (dx := dx) (d := .int 1) rfl ?_ ?_ (OSet.head _) (by rw [hK']; kernel_rfl) (by rw [hK']; kernel_rfl) (Nat.le_of_ble_eq_true (by kernel_rfl)) ?_
    · repeat' (walk_at "one")
    · repeat' (walk_at "one")
    refine ex_setattr (C := 195) (dx := dx) (d := din) rfl ?_ ?_ (OSet.head _) (by rw [hK']; kernel_rfl) (by rw [hK']; kernel_rfl) (Nat.le_of_ble_eq_true (by kernel_rfl)) ?_
    · repeat' (walk_at "one")
    · repeat' (walk_at "one")
    refine ex_setattr (C := 195) (dx := dx) (d := .str WS) rfl (ev_litE rfl) ?_ (OSet.head _) (by rw [hK']; kernel_rfl) (by rw [hK']; kernel_rfl) (Nat.le_of_ble_eq_true (by kernel_rfl)) ?_
    · repeat' (walk_at "one")
    refine ex_setattr_list (C := 195) (dx := dx) rfl (fun a => ?_) (fun a => (OSet.head _).tail _) (by rw [hK']; kernel_rfl) (by rw [hK']; kernel_rfl) (Nat.le_of_ble_eq_true (by kernel_rfl)) fun a ha => ?_
    · repeat' (walk_at "one")
    exact ex_nil (ex_end ⟨rfl, a, rfl⟩)
  · exact no_cells
end
noncomputable def lexBody (P : Params) : List Stmt := match (fnAt (K01 P) 206).body with | .stmts b => b | _ => []
noncomputable def noArgs : Arguments := ⟨[], [], none, [], [], none, []⟩
noncomputable def pieceParams (P : Params) : Arguments := match lexBody P with | _ :: _ :: .FunctionDef _ a _ _ _ _ _ _ _ _ :: _ => a | _ => noArgs
noncomputable def pieceBody (P : Params) : List Stmt := match lexBody P with | _ :: _ :: .FunctionDef _ _ b _ _ _ _ _ _ _ :: _ => b | _ => []
noncomputable def pieceScope (P : Params) : Scope := match lexBody P with | _ :: _ :: .FunctionDef _ _ _ _ _ _ s _ _ _ :: _ => s | _ => (fnAt (K01 P) 206).scope
noncomputable abbrev pieceQual : Str := "_law_lexer.<locals>._law_piece"
noncomputable abbrev pieceFn (P : Params) (ct cg : Addr) : FuncData → Prop := FnTold pieceQual (pieceParams P) (.stmts (pieceBody P)) (pieceScope P) [("text", ct), ("gone", cg)]
noncomputable abbrev pieceD (P : Params) (ct cg : Addr) : D := .fn (pieceFn P ct cg) pieceQual
noncomputable abbrev pieceCl (ct cg g : Addr) (text : List Nat) : List (Str × Addr × D) := [("text", ct, .str text), ("gone", cg, own g)]
noncomputable abbrev pieceOwn (ct cg g : Addr) (text : List Nat) (p : Nat) : Own := [(ct, .cell (.str text)), (cg, .cell (own g)), (g, .list (signs (text.take p)))]
theorem cut_next (w : List Nat) (p : Nat) (h : p ≤ w.length) : cut w (some (p : Int)) (some ((p : Int) + 1)) = (w.drop p).take 1 := cut_one w p h
section
variable {P : Params} {G : Gd} (hK : G.K = K01 P)
include hK
set_option maxHeartbeats 2000000
theorem make_is (din : D) : FnG G 21 (.ref 195) [din] [] (fun d c' => ∃ dx pb, d = .inst 195 dx ∧ c' = [(pb, .list []), (dx, .ns (lexNs 195 1 din pb))]) :=
  fnG_make (fI := 171) (by rw [hK]; kernel_rfl) (by rw [hK]; kernel_rfl) (by rw [hK]; kernel_rfl) (fun dx => init_is hK dx din) fun dx c' h => let ⟨pb, e⟩ := h; ⟨dx, pb, rfl, e⟩
theorem piece_is (ct cg g : Addr) (text : List Nat) (p : Nat) (hp : p ≤ text.length) (hl : text.length ≤ 1000) : FnGd G 20 (pieceD P ct cg) [.int 1] (pieceOwn ct cg g text p) (fun d c' => d = .str ((text.drop p).take 1) ∧ c' = pieceOwn ct cg g text (p + 1)) := by
  refine fnG_clos (cl := pieceCl ct cg g text) (ns := ["count"]) (c := [(g, .list (signs (text.take p)))]) (R' := fun d ρ' ow' => d = .str ((text.drop p).take 1) ∧ (∀ q ∈ pieceCl ct cg g text, ρ'.lookup q.1 = some q.2.2) ∧ ow' = [(g, .list (signs (text.take (p + 1))))]) ?_ (nodup_of rfl) rfl ?_ ?_ ?_ ?_ (by kernel_rfl) (by kernel_rfl) (by kernel_rfl) ?_ ?_
  · intro fd vs hT hv
    obtain ⟨a, rfl⟩ := len1 hv
    obtain ⟨t1, t2, t3, t4, t5, t6, t7, t8, t9⟩ := hT
    obtain ⟨name, q, pa, bo, sc, gl, cl, de, kd, dc, pm, an, cd, ct, bl⟩ := fd
    simp only at t1 t2 t3 t4 t5 t6 t7 t8 t9
    subst t1 t2 t3 t4 t5 t6 t7 t8 t9
    kernel_rfl
  · intro x hx; rw [List.mem_singleton.mp hx]; kernel_rfl
  · intro q hq
    simp only [List.mem_cons, List.not_mem_nil, or_false] at hq
    rcases hq with rfl | rfl <;> kernel_rfl
  · intro x hx; have : (pieceScope P).names.all (fun y => y.2 != .cell) = true := by kernel_rfl
    have := List.all_eq_true.mp this x hx
    simpa using this
  · exact nodup_of rfl
  · intro G' hK' _ X L a cd
    have hK2 : G'.K = K01 P := hK'.trans hK
    have hg : (signs (text.take p)).length = p := by simp [signs]; omega
    have htk : text.take (p + 1) = text.take p ++ (text.drop p).take 1 := by rw [List.take_add]
    show Ex G' 19 _ [("count", .int 1), ("text", .str text), ("gone", own g)] _ _ _
    refine ex_assign (d := .str ((text.drop p).take 1)) (by kernel_rfl) rfl (ev_eq (ev_cut_str (i := some (p : Int)) (j := some ((p : Int) + 1)) (l := text) ?_ (evp_some ?_) (evp_some (ev_binop ?_ ?_ bin_add)) (small (by omega))) (congrArg D.str (cut_next text p hp))) ?_
    · repeat' (walk_at "one")
    · refine ev_freeze "gone" (a := g) (ds := signs (text.take p)) (by walk_at "lk") (List.mem_cons_self ..) OSub.nil (by simp) (fun _ => .nil) rfl (ev_eq (d' := .int (signs (text.take p)).length) (ev_callB (ds := [.list (signs (text.take p))]) ?_ ?_ rfl (fn_len_list (by omega)) rfl) (by rw [hg]))
      · repeat' (walk_at "one")
      · repeat' (walk_at "one")
    · refine ev_freeze "gone" (a := g) (ds := signs (text.take p)) (by walk_at "lk") (List.mem_cons_self ..) OSub.nil (by simp) (fun _ => .nil) rfl (ev_eq (d' := .int (signs (text.take p)).length) (ev_callB (ds := [.list (signs (text.take p))]) ?_ ?_ rfl (fn_len_list (by omega)) rfl) (by rw [hg]))
      · repeat' (walk_at "one")
      · repeat' (walk_at "one")
    · repeat' (walk_at "one")
    refine ex_extend_str (a := g) (ds := signs (text.take p)) (l := (text.drop p).take 1) ?_ (OSet.head _) ?_ rfl (by rw [hg]; simp; omega) rfl rfl rfl ?_
    · repeat' (walk_at "one")
    · repeat' (walk_at "one")
    refine ex_ret (d := .str ((text.drop p).take 1)) ?_ ⟨rfl, fun q hq => ?_, ?_⟩
    · repeat' (walk_at "one")
    · simp only [List.mem_cons, List.not_mem_nil, or_false] at hq
      rcases hq with rfl | rfl
      · walk_at "lk"
      · walk_at "lk"
    · rw [htk]; simp [signs]
  · intro d ρ' ow' h
    obtain ⟨rfl, h1, rfl⟩ := h
    exact ⟨h1, rfl, rfl⟩
end
structure Lx where
  (dl pb ds spb ct cg g : Addr)
noncomputable def lineF (text : List Nat) (p : Nat) : Int := 1 + ((text.take p).count 10 : Nat)
noncomputable abbrev streamNs (P : Params) (x : Lx) : Loc := [("lineno", .int 1), ("instream", .none), ("whitespace", .str WS), ("pushback", own x.spb), ("read", pieceD P x.ct x.cg)]
noncomputable abbrev lexRest (P : Params) (x : Lx) (line : Int) (push : List (List Nat)) : Own := [(x.dl, .ns (lexNs 195 line (.inst 195 x.ds) x.pb)), (x.pb, .list (dstrs push)), (x.ds, .ns (streamNs P x))]
noncomputable abbrev lexOwn (P : Params) (x : Lx) (text : List Nat) (p : Nat) (push : List (List Nat)) : Own := pieceOwn x.ct x.cg x.g text p ++ lexRest P x (lineF text p) push
noncomputable def pitL : OO := .pit fun l c => if l = 301 ∧ c = 4 then some pieceQual else none
section
variable {P : Params} {G : Gd} (hK : G.K = K01 P)
include hK
set_option maxHeartbeats 4000000
theorem lexer_is (text : List Nat) : FnG G 30 (.ref 206) [.str text] [(201, pitL)] (fun d c' => ∃ x : Lx, d = .inst 195 x.dl ∧ c' = lexOwn P x text 0 [] ++ [(x.spb, .list []), (201, pitL)]) := by
  refine fnG_K hK [("text", .str text)] [(201, pitL)] (R' := fun L d ρ w => ∃ x : Lx, (x.ct = L + 1 ∧ x.cg = L + 2) ∧ d = .inst 195 x.dl ∧ ρ.lookup ("text" : Str) = some (.str text) ∧ ρ.lookup ("gone" : Str) = some (own x.g) ∧ w = (x.g, .list []) :: (lexRest P x 1 [] ++ [(x.spb, .list []), (201, pitL)])) rfl rfl rfl ?_ rfl rfl rfl rfl rfl rfl rfl rfl ?_ ?_
  · intro vs hv; obtain ⟨a, rfl⟩ := len1 hv; kernel_rfl
  · intro G' hK' _ X L
    refine ex_assignG (by kernel_rfl) rfl (evG_call (c := []) (r := [(201, pitL)]) (f := 195) (ds := [.none]) ?_ (by rw [hK']; kernel_rfl) ?_ rfl ((make_is hK' .none).le (by decide)) rfl) ?_
    · repeat' (walk_at "one")
    · repeat' (walk_at "one")
    rintro d w ⟨c', ⟨ds, spb, rfl, rfl⟩, rfl⟩ hfresh
    refine ex_newlist (by kernel_rfl) rfl fun g hg => ?_
    refine ex_def (f := fun l c => if l = 301 ∧ c = 4 then some pieceQual else none) (c := 205) (P := 201) (qual := pieceQual) (by kernel_rfl) rfl rfl rfl (by kernel_rfl) (by rw [hK']; kernel_rfl) ?_ rfl (by kernel_rfl) (by kernel_rfl) ?_
    · simp [pitL]
    refine ex_setattr (C := 195) (dx := ds) (d := pieceD P (L + 1) (L + 2)) (fs := lexNs 195 1 .none spb) (ow' := [(g, .list []), (spb, .list []), (ds, .ns (putF "read" (pieceD P (L + 1) (L + 2)) (lexNs 195 1 .none spb))), (201, pitL)]) (by kernel_rfl) ?_ ?_ ?_ (by rw [hK']; kernel_rfl) (by rw [hK']; kernel_rfl) (Nat.le_of_ble_eq_true (by kernel_rfl)) ?_
    · exact ev_name (by kernel_rfl) (by kernel_rfl) (by kernel_rfl)
    · repeat' (walk_at "one")
    · exact ((OSet.head _).tail _).tail _
    refine ex_retG (((evG_call (c := []) (r := [(g, .list []), (spb, .list []), (ds, .ns (putF "read" (pieceD P (L + 1) (L + 2)) (lexNs 195 1 .none spb))), (201, pitL)]) (f := 195) (ds := [.inst 195 ds]) ?_ (by rw [hK']; kernel_rfl) ?_ rfl ((make_is hK' (.inst 195 ds)).le (by decide)) rfl).weaken (R' := fun d w => ∃ dl pb, d = .inst 195 dl ∧ w = [(pb, .list []), (dl, .ns (lexNs 195 1 (.inst 195 ds) pb)), (g, .list []), (spb, .list []), (ds, .ns (streamNs P ⟨dl, pb, ds, spb, L + 1, L + 2, g⟩)), (201, pitL)]) ?_).own (R' := fun d w => ∃ x : Lx, (x.ct = L + 1 ∧ x.cg = L + 2 ∧ x.g = g) ∧ d = .inst 195 x.dl ∧ w = (x.g, .list []) :: (lexRest P x 1 [] ++ [(x.spb, .list []), (201, pitL)])) ?_) ?_
    · repeat' (walk_at "one")
    · repeat' (walk_at "one")
    · rintro d w ⟨c', ⟨dl, pb, rfl, rfl⟩, rfl⟩
      exact ⟨dl, pb, rfl, rfl⟩
    · rintro d w ⟨dl, pb, rfl, rfl⟩
      refine ⟨_, ⟨⟨dl, pb, ds, spb, L + 1, L + 2, g⟩, ⟨rfl, rfl, rfl⟩, rfl, rfl⟩, ?_, ?_⟩
      · intro p hp
        simp only [List.mem_cons, List.cons_append, List.nil_append, List.not_mem_nil, or_false] at hp ⊢
        rcases hp with h | h | h | h | h | h <;> simp [h, dstrs]
      · simp only [keysOf, List.map_cons, List.map_nil, List.cons_append, List.nil_append, List.nodup_cons, List.mem_cons, List.not_mem_nil, or_false, not_or]
        grind
    · rintro d w ⟨x, ⟨h1, h2, h3⟩, rfl, rfl⟩
      exact ⟨x, ⟨h1, h2⟩, rfl, by walk_at "lk", by rw [h3]; walk_at "lk", rfl⟩
  · rintro L d ρ' w ⟨x, ⟨h1, h2⟩, rfl, h3, h4, rfl⟩
    refine ⟨[("text", .str text), ("gone", own x.g)], ?_, nodup_of rfl, x, rfl, ?_⟩
    · intro p hp
      simp only [List.mem_cons, List.not_mem_nil, or_false] at hp
      rcases hp with rfl | rfl
      · exact ⟨h3, by kernel_rfl⟩
      · exact ⟨h4, by kernel_rfl⟩
    · obtain ⟨dl, pb, ds, spb, ct, cg, g⟩ := x
      simp only at h1 h2
      subst h1 h2
      rfl
end
section
variable {P : Params} {G : Gd} (hK : G.K = K01 P)
include hK
set_option maxHeartbeats 4000000
theorem piece_any (ct cg g : Addr) (text : List Nat) (p : Nat) (hl : text.length ≤ 1000) : FnGd G 20 (pieceD P ct cg) [.int 1] (pieceOwn ct cg g text p) (fun d c' => d = .str ((text.drop p).take 1) ∧ c' = pieceOwn ct cg g text (p + 1)) := by
  by_cases hp : p ≤ text.length
  · exact piece_is hK ct cg g text p hp hl
  · have h1 : text.take p = text.take text.length := by rw [List.take_of_length_le (by omega), List.take_of_length_le (by omega)]
    have h2 : text.take (p + 1) = text.take (text.length + 1) := by rw [List.take_of_length_le (by omega), List.take_of_length_le (by omega)]
    have h3 : text.drop p = text.drop text.length := by rw [List.drop_of_length_le (by omega), List.drop_of_length_le (by omega)]
    unfold pieceOwn
    rw [h1, h2, h3]
    exact piece_is hK ct cg g text text.length (Nat.le_refl _) hl
omit hK in
theorem lineF_next (text : List Nat) (p : Nat) : lineF text (p + 1) = lineF text p + (if (text.drop p).take 1 == [10] then 1 else 0) := by
  unfold lineF
  rw [List.take_add, List.count_append]
  cases h : text.drop p with
  | nil => simp
  | cons c r =>
    by_cases hc : c = 10
    · subst hc; simp; omega
    · simp [hc]
theorem read_is (x : Lx) (text : List Nat) (p : Nat) (push : List (List Nat)) (hl : text.length ≤ 1000) : FnG G 29 (.ref 178) [.inst 195 x.dl] (lexOwn P x text p push) (fun d c' => d = .str ((text.drop p).take 1) ∧ c' = lexOwn P x text (p + 1) push) := by
  refine ((fnG_K (n := 20) hK [("self", .inst 195 x.dl)] (lexOwn P x text p push) (R := fun d c' => d = .str ((text.drop p).take 1) ∧ c' = lexOwn P x text (p + 1) push) (R' := fun _ d _ c' => d = .str ((text.drop p).take 1) ∧ c' = lexOwn P x text (p + 1) push) rfl rfl rfl ?_ rfl rfl rfl rfl rfl rfl rfl rfl ?_ ?_).le (by decide))
  · intro vs hv; obtain ⟨a, rfl⟩ := len1 hv; kernel_rfl
  · intro G' hK' _ X L
    have hds : ∀ q l, (x.ds, OO.ns (streamNs P x)) ∈ pieceOwn x.ct x.cg x.g text q ++ lexRest P x l push := fun q l => by simp
    have hdl : ∀ q l, (x.dl, OO.ns (lexNs 195 l (.inst 195 x.ds) x.pb)) ∈ pieceOwn x.ct x.cg x.g text q ++ lexRest P x l push := fun q l => by simp
    refine ex_assignG (by kernel_rfl) rfl (evG_fattr (C := 195) (dx := x.ds) (fs := streamNs P x) (c := pieceOwn x.ct x.cg x.g text p) (r := lexRest P x (lineF text p) push) (ds := [.int 1]) rfl (ev_attr (C := 195) (dx := x.dl) (fs := lexNs 195 (lineF text p) (.inst 195 x.ds) x.pb) (d := .inst 195 x.ds) rfl ?_ (hdl _ _) rfl ?_ ?_ ?_) (hds _ _) rfl (by rw [hK']; kernel_rfl) (by rw [hK']; kernel_rfl) ?_ rfl (piece_any hK' x.ct x.cg x.g text p hl)) ?_
    · repeat' (walk_at "one")
    · rw [hK']; kernel_rfl
    · rw [hK']; kernel_rfl
    · rfl
    · repeat' (walk_at "one")
    rintro d w ⟨c', ⟨rfl, rfl⟩, rfl⟩ hfresh
    refine ex_if (c := (text.drop p).take 1 == [10]) (tst_cmp rfl ?_ ?_ cmp_eq_str) (fun hc => ?_) (fun hc => ?_)
    · repeat' (walk_at "one")
    · repeat' (walk_at "one")
    · refine ex_augattr (C := 195) (dx := x.dl) (fs := lexNs 195 (lineF text p) (.inst 195 x.ds) x.pb) (d₁ := .int (lineF text p)) (d₂ := .int 1) (d := .int (lineF text p + 1)) ?_ ?_ ?_ ((((OSet.head _).tail _).tail _).tail _) rfl (by rw [hK']; kernel_rfl) (by rw [hK']; kernel_rfl) rfl (Nat.le_of_ble_eq_true (by kernel_rfl)) ?_
      · repeat' (walk_at "one")
      · repeat' (walk_at "one")
      · exact inc_add
      · refine ex_nil (ex_ret (d := .str ((text.drop p).take 1)) ?_ ⟨rfl, ?_⟩)
        · repeat' (walk_at "one")
        · unfold lexOwn; rw [lineF_next, hc]; rfl
    · refine ex_nil (ex_ret (d := .str ((text.drop p).take 1)) ?_ ⟨rfl, ?_⟩)
      · repeat' (walk_at "one")
      · unfold lexOwn; rw [lineF_next, hc]; simp
  · exact no_cells
end
noncomputable def quotF : List Nat → List Nat × Nat
  | [] => ([], 1)
  | c :: w => if c = 34 then ([], 1) else if c = 92 then (match w with | [] => ([], 3) | d :: v => (d :: (quotF v).1, (quotF v).2 + 2)) else (c :: (quotF w).1, (quotF w).2 + 1)
noncomputable def bareF : List Nat → List Nat × Nat
  | [] => ([], 1)
  | c :: w => if c ∈ WS then ([], 1) else if c = 92 then (match w with | [] => ([], 3) | d :: v => (d :: (bareF v).1, (bareF v).2 + 2)) else (c :: (bareF w).1, (bareF w).2 + 1)
noncomputable def getF : List Nat → List Nat × Nat
  | [] => ([], 1)
  | c :: w => if c ∈ WS then ((getF w).1, (getF w).2 + 1) else if c = 34 then ((quotF w).1, (quotF w).2 + 1) else if c = 92 then (w.take 1 ++ (bareF (w.drop 1)).1, (bareF (w.drop 1)).2 + 2) else (c :: (bareF w).1, (bareF w).2 + 1)
theorem quotF_esc (w : List Nat) : quotF (92 :: w) = (w.take 1 ++ (quotF (w.drop 1)).1, (quotF (w.drop 1)).2 + 2) := by
  cases w <;> simp [quotF]
theorem bareF_esc (w : List Nat) : bareF (92 :: w) = (w.take 1 ++ (bareF (w.drop 1)).1, (bareF (w.drop 1)).2 + 2) := by
  have : (92 : Nat) ∉ WS := by decide
  cases w <;> simp [bareF, this]
theorem NextC.weaken {G : Gd} {n : Nat} {env : Env} {ρ : Loc} {ow : Own} {q : Addr} {Y Y' : List Nat → Own → Prop} {N N' : Own → Prop} (x : NextC G n env ρ ow q Y N) (hy : ∀ l w, Y l w → Y' l w) (hn : ∀ w, N w → N' w) : NextC G n env ρ ow q Y' N' :=
  ⟨fun X A s E Q Rm F h1 h2 => x.go X A s E Q Rm F (fun v l w X' s' y => h1 v l w X' s' (hy _ _ y)) fun w X' s' z => h2 w X' s' (hn _ z)⟩
noncomputable abbrev getOwn (P : Params) (x : Lx) (text : List Nat) (q : Addr) (p : Nat) (dn : Bool) : Own := lexOwn P x text p [] ++ [(q, .citer (.meth 178 195 x.dl) [] dn)]
structure GetI (text T : List Nat) (pf : Nat) (F : List Nat → List Nat × Nat) (p : Nat) (tok : List Nat) : Prop where
  word : tok ++ (F (text.drop p)).1 = T
  pos : p + (F (text.drop p)).2 = pf
  len : tok.length ≤ p
theorem drop_next {text : List Nat} {p c : Nat} {r : List Nat} (h : text.drop p = c :: r) : text.drop (p + 1) = r ∧ p < text.length ∧ (text.drop p).take 1 = [c] := by
  refine ⟨?_, ?_, by rw [h]; rfl⟩
  · rw [← List.drop_drop, h]; rfl
  · apply Classical.byContradiction; intro z
    rw [List.drop_of_length_le (by omega)] at h; cases h
theorem drop_two {text : List Nat} {p c : Nat} {r : List Nat} (h : text.drop p = c :: r) : text.drop (p + 2) = r.drop 1 := by
  rw [← (drop_next h).1, List.drop_drop]
theorem one_of {l : List Nat} (h : l.take 1 ≠ []) : ∃ c r, l = c :: r := by
  cases l with
  | nil => exact absurd rfl h
  | cons c r => exact ⟨c, r, rfl⟩
section
variable {text T tok : List Nat} {pf p c : Nat} {r : List Nat}
theorem GetI.qend (h : GetI text T pf quotF p tok) (e : text.drop p = []) : tok = T ∧ p + 1 = pf := by
  have h1 := h.word; have h2 := h.pos; rw [e] at h1 h2; exact ⟨by simpa [quotF] using h1, h2⟩
theorem GetI.bend (h : GetI text T pf bareF p tok) (e : text.drop p = []) : tok = T ∧ p + 1 = pf := by
  have h1 := h.word; have h2 := h.pos; rw [e] at h1 h2; exact ⟨by simpa [bareF] using h1, h2⟩
theorem GetI.gend (h : GetI text T pf getF p []) (e : text.drop p = []) : [] = T ∧ p + 1 = pf := by
  have h1 := h.word; have h2 := h.pos; rw [e] at h1 h2; exact ⟨by simpa [getF] using h1, h2⟩
theorem GetI.qclose (h : GetI text T pf quotF p tok) (e : text.drop p = 34 :: r) : tok = T ∧ p + 1 = pf := by
  have h1 := h.word; have h2 := h.pos
  have q : quotF (34 :: r) = ([], 1) := by cases r <;> simp [quotF]
  rw [e, q] at h1 h2; exact ⟨by simpa using h1, h2⟩
theorem GetI.bclose (h : GetI text T pf bareF p tok) (e : text.drop p = c :: r) (hc : c ∈ WS) : tok = T ∧ p + 1 = pf := by
  have h1 := h.word; have h2 := h.pos
  have q : bareF (c :: r) = ([], 1) := by cases r <;> simp [bareF, hc]
  rw [e, q] at h1 h2; exact ⟨by simpa using h1, h2⟩
theorem GetI.qesc (h : GetI text T pf quotF p tok) (e : text.drop p = 92 :: r) : GetI text T pf quotF (p + 2) (tok ++ (text.drop (p + 1)).take 1) := by
  have h1 := h.word; have h2 := h.pos; have h3 := h.len
  rw [e, quotF_esc] at h1 h2
  refine ⟨?_, ?_, ?_⟩
  · rw [drop_two e, (drop_next e).1, List.append_assoc]; exact h1
  · rw [drop_two e]; omega
  · rw [List.length_append, List.length_take]; omega
theorem GetI.besc (h : GetI text T pf bareF p tok) (e : text.drop p = 92 :: r) : GetI text T pf bareF (p + 2) (tok ++ (text.drop (p + 1)).take 1) := by
  have h1 := h.word; have h2 := h.pos; have h3 := h.len
  rw [e, bareF_esc] at h1 h2
  refine ⟨?_, ?_, ?_⟩
  · rw [drop_two e, (drop_next e).1, List.append_assoc]; exact h1
  · rw [drop_two e]; omega
  · rw [List.length_append, List.length_take]; omega
theorem GetI.qone (h : GetI text T pf quotF p tok) (e : text.drop p = c :: r) (h34 : c ≠ 34) (h92 : c ≠ 92) : GetI text T pf quotF (p + 1) (tok ++ [c]) := by
  have h1 := h.word; have h2 := h.pos; have h3 := h.len
  have q : quotF (c :: r) = (c :: (quotF r).1, (quotF r).2 + 1) := by cases r <;> simp [quotF, h34, h92]
  rw [e, q] at h1 h2
  refine ⟨?_, ?_, ?_⟩
  · rw [(drop_next e).1, List.append_assoc]; exact h1
  · rw [(drop_next e).1]; omega
  · rw [List.length_append, List.length_singleton]; omega
theorem GetI.bone (h : GetI text T pf bareF p tok) (e : text.drop p = c :: r) (hc : c ∉ WS) (h92 : c ≠ 92) : GetI text T pf bareF (p + 1) (tok ++ [c]) := by
  have h1 := h.word; have h2 := h.pos; have h3 := h.len
  have q : bareF (c :: r) = (c :: (bareF r).1, (bareF r).2 + 1) := by cases r <;> simp [bareF, hc, h92]
  rw [e, q] at h1 h2
  refine ⟨?_, ?_, ?_⟩
  · rw [(drop_next e).1, List.append_assoc]; exact h1
  · rw [(drop_next e).1]; omega
  · rw [List.length_append, List.length_singleton]; omega
theorem GetI.gskip (h : GetI text T pf getF p []) (e : text.drop p = c :: r) (hc : c ∈ WS) : GetI text T pf getF (p + 1) [] := by
  have h1 := h.word; have h2 := h.pos
  have q : getF (c :: r) = ((getF r).1, (getF r).2 + 1) := by simp [getF, hc]
  rw [e, q] at h1 h2
  refine ⟨?_, ?_, by simp⟩
  · rw [(drop_next e).1]; exact h1
  · rw [(drop_next e).1]; omega
theorem GetI.gquot (h : GetI text T pf getF p []) (e : text.drop p = 34 :: r) : GetI text T pf quotF (p + 1) [] := by
  have h1 := h.word; have h2 := h.pos
  have q : getF (34 :: r) = ((quotF r).1, (quotF r).2 + 1) := by have : (34 : Nat) ∉ WS := by decide
                                                                 simp [getF, this]
  rw [e, q] at h1 h2
  refine ⟨?_, ?_, by simp⟩
  · rw [(drop_next e).1]; exact h1
  · rw [(drop_next e).1]; omega
theorem GetI.gesc (h : GetI text T pf getF p []) (e : text.drop p = 92 :: r) : GetI text T pf bareF (p + 2) ([] ++ (text.drop (p + 1)).take 1) := by
  have h1 := h.word; have h2 := h.pos
  have q : getF (92 :: r) = (r.take 1 ++ (bareF (r.drop 1)).1, (bareF (r.drop 1)).2 + 2) := by have : (92 : Nat) ∉ WS := by decide
                                                                                               simp [getF, this]
  rw [e, q] at h1 h2
  refine ⟨?_, ?_, ?_⟩
  · rw [drop_two e, (drop_next e).1]; exact h1
  · rw [drop_two e]; omega
  · simp; omega
theorem GetI.gone (h : GetI text T pf getF p []) (e : text.drop p = c :: r) (hc : c ∉ WS) (h34 : c ≠ 34) (h92 : c ≠ 92) : GetI text T pf bareF (p + 1) ([] ++ [c]) := by
  have h1 := h.word; have h2 := h.pos
  have q : getF (c :: r) = (c :: (bareF r).1, (bareF r).2 + 1) := by simp [getF, hc, h34, h92]
  rw [e, q] at h1 h2
  refine ⟨?_, ?_, by simp⟩
  · rw [(drop_next e).1]; exact h1
  · rw [(drop_next e).1]; omega
end
theorem ex_if_join {G : Gd} {n : Nat} {env : Env} {ρ : Loc} {ow : Own} {bs : List (List Stmt)} {o : Out} {t : Expr} {a b rest : List Stmt} {pos : Pos} {c : Bool} (S : Loc → Own → Prop) (ht : Tst G n env ρ ow t c) (h : ∀ r w, S r w → Ex G n env r w (rest :: bs) o)
    (h₁ : c = true → (∀ r w, S r w → Ex G n env r w (rest :: bs) o) → Ex G n env ρ ow (a :: rest :: bs) o) (h₂ : c = false → (∀ r w, S r w → Ex G n env r w (rest :: bs) o) → Ex G n env ρ ow (b :: rest :: bs) o) : Ex G n env ρ ow ((.If t a b pos :: rest) :: bs) o := ex_if ht (fun e => h₁ e h) fun e => h₂ e h
section
variable {P : Params} {G : Gd} (hK : G.K = K01 P)
include hK
set_option maxHeartbeats 8000000
theorem next_is (x : Lx) (text : List Nat) (hl : text.length ≤ 1000) (q : Addr) (p : Nat) (env : Env) (ρ : Loc) : NextC G 40 env ρ (getOwn P x text q p false) q (fun l w => (text.drop p).take 1 = l ∧ l ≠ [] ∧ w = getOwn P x text q (p + 1) false) (fun w => text.drop p = [] ∧ w = getOwn P x text q (p + 1) true) := by
  refine (next_ci (r := []) (f := 178) ((read_is hK x text p [] hl).le (m := 39) (by decide)) ?_ (by rw [hK]; kernel_rfl)).weaken ?_ ?_
  · rintro d c' ⟨rfl, rfl⟩; exact ⟨_, rfl⟩
  · rintro l w ⟨hne, c', ⟨e, rfl⟩, rfl⟩
    injection e with e
    exact ⟨e.symm, hne, rfl⟩
  · rintro w ⟨c', ⟨e, rfl⟩, rfl⟩
    injection e with e
    refine ⟨?_, rfl⟩
    cases h : text.drop p with
    | nil => rfl
    | cons a r => rw [h] at e; cases e
theorem next_both (x : Lx) (text : List Nat) (hl : text.length ≤ 1000) (q : Addr) (p : Nat) (dn : Bool) (env : Env) (ρ : Loc) : NextC G 40 env ρ (getOwn P x text q p dn) q (fun l w => dn = false ∧ (text.drop p).take 1 = l ∧ l ≠ [] ∧ w = getOwn P x text q (p + 1) false) (fun w => (dn = false ∧ text.drop p = [] ∧ w = getOwn P x text q (p + 1) true) ∨ (dn = true ∧ w = getOwn P x text q p true)) := by
  cases dn with
  | false => exact (next_is hK x text hl q p env ρ).weaken (fun l w h => ⟨rfl, h⟩) fun w h => .inl ⟨rfl, h⟩
  | true => exact (next_over (df := .meth 178 195 x.dl) (sent := []) (by simp)).weaken (fun l w h => h.elim) fun w h => .inr ⟨rfl, h⟩
theorem get_is (x : Lx) (text : List Nat) (hl : text.length ≤ 1000) (p : Nat) (T : List Nat) (pf : Nat) (hT : (getF (text.drop p)).1 = T) (hpf : p + (getF (text.drop p)).2 = pf) : FnG G 41 (.ref 185) [.inst 195 x.dl] (lexOwn P x text p []) (fun d c' => d = .str T ∧ c' = lexOwn P x text pf []) := by
  refine (fnG_K (n := 40) hK [("self", .inst 195 x.dl)] (lexOwn P x text p []) (R := fun d c' => d = .str T ∧ ∃ q dn, c' = getOwn P x text q pf dn) (R' := fun _ d _ c' => d = .str T ∧ ∃ q dn, c' = getOwn P x text q pf dn) rfl rfl rfl ?_ rfl rfl rfl rfl rfl rfl rfl rfl ?_ no_cells).own ?_
  rotate_left 2
  · rintro d w ⟨rfl, q, dn, rfl⟩
    refine ⟨_, ⟨rfl, rfl⟩, fun p hp => List.mem_append_left _ hp, fun h => ?_⟩
    rw [keysOf, List.map_append, List.nodup_append] at h
    exact h.1
  · intro vs hv; obtain ⟨a, rfl⟩ := len1 hv; kernel_rfl
  intro G' hK' _ X L
  have hdl : ∀ q l p dn, (x.dl, OO.ns (lexNs 195 l (.inst 195 x.ds) x.pb)) ∈ pieceOwn x.ct x.cg x.g text p ++ lexRest P x l [] ++ [(q, .citer (.meth 178 195 x.dl) [] dn)] := fun q l p dn => by simp
  refine ex_if (c := false) (tst_own (a := x.pb) (ds := dstrs []) rfl (ev_attr (C := 195) (dx := x.dl) (fs := lexNs 195 (lineF text p) (.inst 195 x.ds) x.pb) (d := own x.pb) rfl ?_ ?_ rfl (by rw [hK']; kernel_rfl) (by rw [hK']; kernel_rfl) rfl) (by simp) (by decide)) (fun h => by cases h) fun _ => ?_
  · repeat' (walk_at "one")
  · simp
  refine ex_nil ?_
  refine ex_assign (d := .str []) (by kernel_rfl) rfl (ev_litE rfl) ?_
  refine ex_citer (f := 178) (C := 195) (dx := x.dl) (sent := []) (by kernel_rfl) (by kernel_rfl) rfl ?_ (ev_bmeth (C := 195) (dx := x.dl) (f := 178) (fs := lexNs 195 (lineF text p) (.inst 195 x.ds) x.pb) rfl ?_ (by simp) rfl (by rw [hK']; kernel_rfl) (by rw [hK']; kernel_rfl)) (ev_litE rfl) fun q hq => ?_
  · repeat' (walk_at "one")
  · repeat' (walk_at "one")
  refine ex_own (ow' := getOwn P x text q p false) (fun y hy => ?_) (fun h => ?_) ?_
  · rcases List.mem_append.mp hy with z | z
    · exact List.mem_cons_of_mem _ z
    · rw [List.mem_singleton.mp z]; exact List.mem_cons_self ..
  · rw [keysOf, List.map_cons, List.nodup_cons] at h
    rw [keysOf, List.map_append, List.nodup_append]
    refine ⟨h.2, by simp, fun a ha b hb e => ?_⟩
    simp only [List.map_cons, List.map_nil, List.mem_singleton] at hb
    subst hb e
    exact h.1 ha
  refine ex_forC (σ := Nat × List Nat × Bool) (q := q) (df := .meth 178 195 x.dl) (sent := []) (by kernel_rfl) ?_ ⟨false, by simp⟩ (fun b => [("token", .str b.2.1), ("fiter", own q), ("self", .inst 195 x.dl)]) (fun b => getOwn P x text q b.1 b.2.2) (fun b => if b.2.2 then b.2.1 = T ∧ b.1 = pf else b.2.1 = [] ∧ GetI text T pf getF b.1 []) (fun b => text.length - b.1) (p, [], false) ?_ ?_ (fun _ h => h) (fun _ => rfl) _ _ (fun b hb => next_both hK' x text hl q b.1 b.2.2 _ _) ?_ ?_ ?_ ?_
  · repeat' (walk_at "one")
  · exact ⟨rfl, hT, hpf, by simp⟩
  · walk_at "subs"
  · rintro b l w hb ⟨h1, h2, h3, rfl⟩; rfl
  · rintro b w hb (⟨h1, h2, rfl⟩ | ⟨h1, rfl⟩) <;> rfl
  · rintro ⟨p', tok, dn⟩ l w hb ⟨h1, h2, h3, rfl⟩
    simp only at h1 h2 h3 hb
    subst h1 h2
    obtain ⟨rfl, hb⟩ := hb
    obtain ⟨c, r, hr⟩ := one_of h3
    obtain ⟨hr1, hp1, hr2⟩ := drop_next hr
    rw [hr2]
    refine ex_if (c := decide (c ∈ WS)) (tst_cmp rfl ?_ (ev_attr (C := 195) (dx := x.dl) (fs := lexNs 195 (lineF text (p' + 1)) (.inst 195 x.ds) x.pb) (d := .str WS) rfl ?_ ?_ rfl ?_ ?_ rfl) cmp_in_str) (fun hc => ?_) fun hc => ?_
    · repeat' (walk_at "one")
    · repeat' (walk_at "one")
    · simp
    · rw [hK']; kernel_rfl
    · rw [hK']; kernel_rfl
    · refine ex_cont ⟨(p' + 1, [], false), ⟨rfl, hb.gskip hr (of_decide_eq_true hc)⟩, ?_, ?_, fun _ h => h⟩
      · show text.length - (p' + 1) < text.length - p'; omega
      · walk_at "subs"
    refine ex_nil ?_
    have hc' := of_decide_eq_false hc
    refine ex_if (c := [c] == [34]) (tst_cmp rfl ?_ ?_ cmp_eq_str) (fun h34 => ?_) fun h34 => ?_
    · repeat' (walk_at "one")
    · repeat' (walk_at "one")
    · have h34' : c = 34 := by simpa using h34
      subst h34'
      refine ex_forC (σ := Nat × List Nat) (q := q) (df := .meth 178 195 x.dl) (sent := []) (by kernel_rfl) ?_ ⟨false, by simp⟩ (fun b => [("token", .str b.2), ("fiter", own q), ("self", .inst 195 x.dl)]) (fun b => getOwn P x text q b.1 false) (fun b => p' < b.1 ∧ GetI text T pf quotF b.1 b.2) (fun b => text.length - b.1) (p' + 1, []) ?_ ?_ (fun _ h => h) (fun _ => rfl) _ _ (fun b hb => next_is hK' x text hl q b.1 _ _) ?_ ?_ ?_ ?_
      · repeat' (walk_at "one")
      · exact ⟨by show p' < _; omega, hb.gquot hr⟩
      · walk_at "subs"
      · rintro b l w hb ⟨h2, h3, rfl⟩; rfl
      · rintro b w hb ⟨h2, rfl⟩; rfl
      · rintro ⟨p2, tok⟩ l w hb ⟨h2, h3, rfl⟩
        simp only at h2 h3 hb
        subst h2
        obtain ⟨hpp, hb⟩ := hb
        obtain ⟨c, r, hr⟩ := one_of h3
        obtain ⟨hr1, hp2, hr2⟩ := drop_next hr
        have htk := hb.len
        rw [hr2]
        refine ex_if (c := [c] == [34]) (tst_cmp rfl ?_ ?_ cmp_eq_str) (fun h34 => ?_) fun h34 => ?_
        · repeat' (walk_at "one")
        · repeat' (walk_at "one")
        · have h34' : c = 34 := by simpa using h34
          subst h34'
          obtain ⟨h5, h6⟩ := hb.qclose hr
          refine ex_ret (d := .str tok) ?_ ⟨by rw [h5], q, false, by rw [h6]⟩
          repeat' (walk_at "one")
        have hne : c ≠ 34 := by simpa using h34
        refine ex_if (c := [c] == [92]) (tst_cmp rfl ?_ ?_ cmp_eq_str) (fun h92 => ?_) fun h92 => ?_
        · repeat' (walk_at "one")
        · repeat' (walk_at "one")
        · have h92' : c = 92 := by simpa using h92
          subst h92'
          refine ex_assignG (by kernel_rfl) (by kernel_rfl) (evG_imeth0 (C := 195) (dx := x.dl) (f := 178) (fs := lexNs 195 (lineF text (p2 + 1)) (.inst 195 x.ds) x.pb) (c := lexOwn P x text (p2 + 1) []) (r := [(q, .citer (.meth 178 195 x.dl) [] false)]) rfl (by walk_at "one") (hdl _ _ _ _) rfl (by rw [hK']; kernel_rfl) (by rw [hK']; kernel_rfl) (by rw [hK']; kernel_rfl) ((read_is hK' x text (p2 + 1) [] hl).le (by decide))) ?_
          rintro d w ⟨c', ⟨rfl, rfl⟩, rfl⟩ hfresh
          refine ex_nil (ex_nil ?_)
          refine ex_aug (d₁ := .str tok) (d₂ := .str ((text.drop (p2 + 1)).take 1)) (d := .str (tok ++ (text.drop (p2 + 1)).take 1)) (by kernel_rfl) (by kernel_rfl) ?_ ?_ (inc_cat (small (by simp; omega))) ?_
          · walk_at "lk"
          · repeat' (walk_at "one")
          · refine ex_nil (ex_end ⟨(p2 + 2, _), ⟨by show p' < p2 + 2; omega, hb.qesc hr⟩, ?_, ?_, fun _ h => h⟩)
            · show text.length - (p2 + 2) < text.length - p2; omega
            · walk_at "subs"
        · have h92' : c ≠ 92 := by simpa using h92
          refine ex_nil (ex_nil ?_)
          refine ex_aug (d₁ := .str tok) (d₂ := .str [c]) (d := .str (tok ++ [c])) (by kernel_rfl) (by kernel_rfl) ?_ ?_ (inc_cat (small (by simp; omega))) ?_
          · walk_at "lk"
          · repeat' (walk_at "one")
          · refine ex_nil (ex_end ⟨(p2 + 1, _), ⟨by show p' < p2 + 1; omega, hb.qone hr hne h92'⟩, ?_, ?_, fun _ h => h⟩)
            · show text.length - (p2 + 1) < text.length - p2; omega
            · walk_at "subs"
      · rintro ⟨p2, tok⟩ w hb ⟨h2, rfl⟩
        obtain ⟨hpp, hb⟩ := hb
        obtain ⟨h5, h6⟩ := hb.qend h2
        refine ex_nil (ex_nil (ex_end ⟨(p2 + 1, tok, true), ⟨h5, h6⟩, ?_, ?_, fun _ h => h⟩))
        · have hpp' : p' < p2 := hpp
          show text.length - (p2 + 1) < text.length - p'; omega
        · walk_at "subs"
    · have h34' : c ≠ 34 := by simpa using h34
      refine ex_if_join (c := [c] == [92]) (S := fun r w => ∃ p0 cs, r = ([("ch", .str cs), ("token", .str []), ("fiter", own q), ("self", .inst 195 x.dl)] : Loc) ∧ w = getOwn P x text q p0 false ∧ cs.length ≤ 1 ∧ p' < p0 ∧ GetI text T pf bareF p0 ([] ++ cs)) (tst_cmp rfl ?_ ?_ cmp_eq_str) ?_ (fun h92 key => ?_) fun h92 key => ?_
      · repeat' (walk_at "one")
      · repeat' (walk_at "one")
      · rintro _ _ ⟨p0, cs, rfl, rfl, hcs, hp0, hb0⟩
        refine ex_aug (d₁ := .str []) (d₂ := .str cs) (d := .str ([] ++ cs)) (by kernel_rfl) (by kernel_rfl) ?_ ?_ (inc_cat (small (by simp; omega))) ?_
        · walk_at "lk"
        · repeat' (walk_at "one")
        refine ex_forC (σ := Nat × List Nat) (q := q) (df := .meth 178 195 x.dl) (sent := []) (by kernel_rfl) ?_ ⟨false, by simp⟩ (fun b => [("token", .str b.2), ("fiter", own q), ("self", .inst 195 x.dl)]) (fun b => getOwn P x text q b.1 false) (fun b => p' < b.1 ∧ GetI text T pf bareF b.1 b.2) (fun b => text.length - b.1) (p0, [] ++ cs) ?_ ?_ (fun _ h => h) (fun _ => rfl) _ _ (fun b hb => next_is hK' x text hl q b.1 _ _) ?_ ?_ ?_ ?_
        · repeat' (walk_at "one")
        · exact ⟨hp0, hb0⟩
        · walk_at "subs"
        · rintro b l w hb ⟨h2, h3, rfl⟩; rfl
        · rintro b w hb ⟨h2, rfl⟩; rfl
        · rintro ⟨p2, tok⟩ l w hb ⟨h2, h3, rfl⟩
          simp only at h2 h3 hb
          subst h2
          obtain ⟨hpp, hb⟩ := hb
          obtain ⟨c, r, hr⟩ := one_of h3
          obtain ⟨hr1, hp2, hr2⟩ := drop_next hr
          have htk := hb.len
          rw [hr2]
          refine ex_if (c := decide (c ∈ WS)) (tst_cmp rfl ?_ (ev_attr (C := 195) (dx := x.dl) (fs := lexNs 195 (lineF text (p2 + 1)) (.inst 195 x.ds) x.pb) (d := .str WS) rfl ?_ ?_ rfl ?_ ?_ rfl) cmp_in_str) (fun hc => ?_) fun hc => ?_
          · repeat' (walk_at "one")
          · repeat' (walk_at "one")
          · simp
          · rw [hK']; kernel_rfl
          · rw [hK']; kernel_rfl
          · obtain ⟨h5, h6⟩ := hb.bclose hr (of_decide_eq_true hc)
            refine ex_ret (d := .str tok) ?_ ⟨by rw [h5], q, false, by rw [h6]⟩
            repeat' (walk_at "one")
          have hne := of_decide_eq_false hc
          refine ex_if (c := [c] == [92]) (tst_cmp rfl ?_ ?_ cmp_eq_str) (fun h92 => ?_) fun h92 => ?_
          · repeat' (walk_at "one")
          · repeat' (walk_at "one")
          · have h92' : c = 92 := by simpa using h92
            subst h92'
            refine ex_assignG (by kernel_rfl) (by kernel_rfl) (evG_imeth0 (C := 195) (dx := x.dl) (f := 178) (fs := lexNs 195 (lineF text (p2 + 1)) (.inst 195 x.ds) x.pb) (c := lexOwn P x text (p2 + 1) []) (r := [(q, .citer (.meth 178 195 x.dl) [] false)]) rfl (by walk_at "one") (hdl _ _ _ _) rfl (by rw [hK']; kernel_rfl) (by rw [hK']; kernel_rfl) (by rw [hK']; kernel_rfl) ((read_is hK' x text (p2 + 1) [] hl).le (by decide))) ?_
            rintro d w ⟨c', ⟨rfl, rfl⟩, rfl⟩ hfresh
            refine ex_nil (ex_nil ?_)
            refine ex_aug (d₁ := .str tok) (d₂ := .str ((text.drop (p2 + 1)).take 1)) (d := .str (tok ++ (text.drop (p2 + 1)).take 1)) (by kernel_rfl) (by kernel_rfl) ?_ ?_ (inc_cat (small (by simp; omega))) ?_
            · walk_at "lk"
            · repeat' (walk_at "one")
            · refine ex_nil (ex_end ⟨(p2 + 2, _), ⟨by show p' < p2 + 2; omega, hb.besc hr⟩, ?_, ?_, fun _ h => h⟩)
              · show text.length - (p2 + 2) < text.length - p2; omega
              · walk_at "subs"
          · have h92' : c ≠ 92 := by simpa using h92
            refine ex_nil (ex_nil ?_)
            refine ex_aug (d₁ := .str tok) (d₂ := .str [c]) (d := .str (tok ++ [c])) (by kernel_rfl) (by kernel_rfl) ?_ ?_ (inc_cat (small (by simp; omega))) ?_
            · walk_at "lk"
            · repeat' (walk_at "one")
            · refine ex_nil (ex_end ⟨(p2 + 1, _), ⟨by show p' < p2 + 1; omega, hb.bone hr hne h92'⟩, ?_, ?_, fun _ h => h⟩)
              · show text.length - (p2 + 1) < text.length - p2; omega
              · walk_at "subs"
        · rintro ⟨p2, tok⟩ w hb ⟨h2, rfl⟩
          obtain ⟨hpp, hb⟩ := hb
          obtain ⟨h5, h6⟩ := hb.bend h2
          refine ex_nil (ex_nil (ex_end ⟨(p2 + 1, tok, true), ⟨h5, h6⟩, ?_, ?_, fun _ h => h⟩))
          · have hpp' : p' < p2 := hpp
            show text.length - (p2 + 1) < text.length - p'; omega
          · walk_at "subs"
      · have h92' : c = 92 := by simpa using h92
        subst h92'
        refine ex_assignG (by kernel_rfl) (by kernel_rfl) (evG_imeth0 (C := 195) (dx := x.dl) (f := 178) (fs := lexNs 195 (lineF text (p' + 1)) (.inst 195 x.ds) x.pb) (c := lexOwn P x text (p' + 1) []) (r := [(q, .citer (.meth 178 195 x.dl) [] false)]) rfl (by walk_at "one") (hdl _ _ _ _) rfl (by rw [hK']; kernel_rfl) (by rw [hK']; kernel_rfl) (by rw [hK']; kernel_rfl) ((read_is hK' x text (p' + 1) [] hl).le (by decide))) ?_
        rintro d w ⟨c', ⟨rfl, rfl⟩, rfl⟩ hfresh
        exact ex_nil (ex_sub (by walk_at "subs") (key _ _ ⟨p' + 2, (text.drop (p' + 1)).take 1, rfl, rfl, by rw [List.length_take]; omega, by omega, hb.gesc hr⟩))
      · have h92' : c ≠ 92 := by simpa using h92
        exact ex_nil (ex_sub (by walk_at "subs") (key _ _ ⟨p' + 1, [c], rfl, rfl, by simp, by omega, hb.gone hr hc' h34' h92'⟩))
  · rintro ⟨p', tok, dn⟩ w hb hn
    simp only at hb hn
    rcases hn with ⟨rfl, h2, rfl⟩ | ⟨rfl, rfl⟩
    · obtain ⟨rfl, hb⟩ := hb
      obtain ⟨h3, h4⟩ := hb.gend h2
      refine ex_ret (d := .str []) ?_ ⟨by rw [h3], q, true, by rw [h4]⟩
      repeat' (walk_at "one")
    · obtain ⟨rfl, rfl⟩ := hb
      refine ex_ret (d := .str tok) ?_ ⟨rfl, q, true, rfl⟩
      repeat' (walk_at "one")
end
theorem mulmod (x w : Nat) {a b : Nat} (h : w < a) : (x * a + w) % (a * b) = x % b * a + w := by
  rw [Nat.mod_mul, Nat.mul_comm x a, Nat.mul_add_mod, Nat.mod_eq_of_lt h, Nat.mul_add_div (Nat.lt_of_le_of_lt (Nat.zero_le _) h), Nat.div_eq_of_lt h, Nat.add_zero, Nat.add_comm, Nat.mul_comm]
theorem muldiv (x w : Nat) {a : Nat} (h : w < a) : (x * a + w) / a = x := by
  rw [Nat.mul_comm x a, Nat.mul_add_div (Nat.lt_of_le_of_lt (Nat.zero_le _) h), Nat.div_eq_of_lt h, Nat.add_zero]
theorem mulrem (x w : Nat) {a : Nat} (h : w < a) : (x * a + w) % a = w := by
  rw [Nat.mul_comm x a, Nat.mul_add_mod, Nat.mod_eq_of_lt h]
theorem mullt {x w a b : Nat} (hx : x < b) (h : w < a) : x * a + w < b * a := Nat.lt_of_lt_of_le (Nat.add_lt_add_left h _) (Nat.succ_mul x a ▸ Nat.mul_le_mul_right a hx)
theorem div4 {x : Nat} (h : x < 256) : x / 4 < 64 := Nat.div_lt_of_lt_mul h
theorem div16 {x : Nat} (h : x < 256) : x / 16 < 16 := Nat.div_lt_of_lt_mul h
theorem div64 {x : Nat} (h : x < 256) : x / 64 < 4 := Nat.div_lt_of_lt_mul h
theorem six2 {x y : Nat} (hy : y < 256) : x % 4 * 16 + y / 16 < 64 := mullt (b := 4) (Nat.mod_lt _ (by decide)) (div16 hy)
theorem six3 {y z : Nat} (hz : z < 256) : y % 16 * 4 + z / 64 < 64 := mullt (b := 16) (Nat.mod_lt _ (by decide)) (div64 hz)
theorem acc2 {A y : Nat} (hy : y < 256) : (A * 256 + y) % 65536 = A % 256 * 256 + y := mulmod A y (b := 256) hy
theorem encq {x : Nat} (hx : x < 256) : (0 * 256 + x) % 65536 = x := by rw [Nat.zero_mul, Nat.zero_add]; exact Nat.mod_eq_of_lt (Nat.lt_of_lt_of_le hx (by decide))
theorem enc1 {x : Nat} (hx : x < 256)  : (0 * 256 + x) % 65536 / 2 ^ 2 % 64 = x / 4 := by rw [encq hx]; exact Nat.mod_eq_of_lt (div4 hx)
theorem enc2 {x y : Nat} (hx : x < 256) (hy : y < 256) : ((0 * 256 + x) % 65536 * 256 + y) % 65536 / 2 ^ 4 % 64 = x % 4 * 16 + y / 16 := by
  rw [encq hx, acc2 hy, Nat.mod_eq_of_lt hx, show x * 256 + y = 16 * (x * 16) + y by rw [Nat.mul_comm 16, Nat.mul_assoc]]
  show (16 * (x * 16) + y) / 16 % (16 * 4) = _
  rw [Nat.mul_add_div (by decide), mulmod x _ (div16 hy)]
theorem enc3a {A y z : Nat} (hy : y < 256) (hz : z < 256) : ((A * 256 + y) % 65536 * 256 + z) % 65536 = y * 256 + z := by
  rw [acc2 hy, acc2 hz, mulrem _ _ hy]
theorem enc3 {A y z : Nat} (hy : y < 256) (hz : z < 256) : ((A * 256 + y) % 65536 * 256 + z) % 65536 / 2 ^ 6 % 64 = y % 16 * 4 + z / 64 := by
  rw [enc3a hy hz, show y * 256 + z = 64 * (y * 4) + z by rw [Nat.mul_comm 64, Nat.mul_assoc]]
  show (64 * (y * 4) + z) / 64 % (4 * 16) = _
  rw [Nat.mul_add_div (by decide), mulmod y _ (div64 hz)]
theorem enc4 {A y z : Nat} (hy : y < 256) (hz : z < 256) : ((A * 256 + y) % 65536 * 256 + z) % 65536 / 2 ^ 0 % 64 = z % 64 := by
  rw [enc3a hy hz, show y * 256 + z = 64 * (y * 4) + z by rw [Nat.mul_comm 64, Nat.mul_assoc], Nat.pow_zero, Nat.div_one, Nat.mul_add_mod]
theorem dec1 {x y : Nat} (hy : y < 256) : x / 4 * 4 + (x % 4 * 16 + y / 16) / 16 = x := by rw [muldiv _ _ (div16 hy), Nat.mul_comm, Nat.div_add_mod]
theorem dec2 {x y z : Nat} (hy : y < 256) (hz : z < 256) : (x % 4 * 16 + y / 16) % 16 * 16 + (y % 16 * 4 + z / 64) / 4 = y := by rw [mulrem _ _ (div16 hy), muldiv _ _ (div64 hz), Nat.mul_comm, Nat.div_add_mod]
theorem dec3 {y z : Nat} (hz : z < 256) : (y % 16 * 4 + z / 64) % 4 * 64 + z % 64 = z := by rw [mulrem _ _ (div64 hz), Nat.mul_comm, Nat.div_add_mod]
noncomputable def sixF (x y z : Nat) : List Nat := [x / 4, x % 4 * 16 + y / 16, y % 16 * 4 + z / 64, z % 64]
noncomputable def ALPHA : List Nat := S "ABCDEFGHIJKLMNOPQRSTUVWXYZabcdefghijklmnopqrstuvwxyz0123456789+/"
theorem alpha_all : ∀ s, s < 64 → ALPHA.getD s 0 = (B64.getD s 0).toNat ∧ ALPHA.getD s 0 < 128 ∧ ALPHA.idxOf (ALPHA.getD s 0) = s ∧ idxs (ALPHA.getD s 0) ALPHA = [s] ∧ b64valF ((ALPHA.getD s 0).toUInt8.toNat : Int) = s ∧ ((ALPHA.getD s 0).toUInt8.toNat : Int) ≠ 61 := by decide +kernel
theorem alpha_get (s : Nat) (h : s < 64) : ALPHA.getD s 0 = (B64.getD s 0).toNat ∧ ALPHA.getD s 0 < 128 ∧ ALPHA.idxOf (ALPHA.getD s 0) = s ∧ ∃ r, idxs (ALPHA.getD s 0) ALPHA = s :: r :=
  let ⟨h1, h2, h3, h4, _⟩ := alpha_all s h; ⟨h1, h2, h3, [], h4⟩
theorem b64_small (s : Nat) : (B64.getD s 0).toNat < 128 := by
  by_cases h : s < 64
  · have := alpha_all s h; omega
  · have hl : B64.length = 64 := by decide
    rw [List.getD_eq_getElem?_getD, List.getElem?_eq_none (by omega)]; decide
theorem six_small (x y z : Nat) (hx : x < 256) (hy : y < 256) (hz : z < 256) : ∀ s ∈ sixF x y z, s < 64 := by
  refine List.forall_mem_cons.mpr ⟨div4 hx, List.forall_mem_cons.mpr ⟨six2 hy, List.forall_mem_cons.mpr ⟨six3 hz, List.forall_mem_cons.mpr ⟨Nat.mod_lt _ (by decide), List.forall_mem_nil _⟩⟩⟩⟩
theorem u8_is {x : Nat} (h : x < 256) : (x.toUInt8.toNat : Int) = x := congrArg Nat.cast (show x % 256 = x from Nat.mod_eq_of_lt h)
theorem u8_back (u : UInt8) : ((u.toNat : Int)).toNat.toUInt8 = u := by simp
theorem six_enc (x y z : Nat) (hx : x < 256) (hy : y < 256) (hz : z < 256) : (stF [x.toUInt8, y.toUInt8, z.toUInt8]).2.1 = 0 ∧ (stF [x.toUInt8, y.toUInt8, z.toUInt8]).2.2.map (fun m => m.toNat.toUInt8) = (sixF x y z).map fun s => B64.getD s 0 := by
  have hX : (x.toUInt8.toNat : Int) = x := u8_is hx
  have hY : (y.toUInt8.toNat : Int) = y := u8_is hy
  have hZ : (z.toUInt8.toNat : Int) = z := u8_is hz
  refine ⟨by kernel_rfl, ?_⟩
  have e : (stF [x.toUInt8, y.toUInt8, z.toUInt8]).2.2 = [emitAt ((0 * 256 + (x.toUInt8.toNat : Int)) % 65536) 2, emitAt (((0 * 256 + (x.toUInt8.toNat : Int)) % 65536 * 256 + (y.toUInt8.toNat : Int)) % 65536) 4,
    emitAt ((((0 * 256 + (x.toUInt8.toNat : Int)) % 65536 * 256 + (y.toUInt8.toNat : Int)) % 65536 * 256 + (z.toUInt8.toNat : Int)) % 65536) 6, emitAt ((((0 * 256 + (x.toUInt8.toNat : Int)) % 65536 * 256 + (y.toUInt8.toNat : Int)) % 65536 * 256 + (z.toUInt8.toNat : Int)) % 65536) 0] := by kernel_rfl
  rw [e, hX, hY, hZ]
  simp only [emitAt, b64I, List.map_cons, List.map_nil, u8_back, sixF]
  have e1 : ((0 * 256 + (x : Int)) % 65536 / (2 ^ 2 : Nat) % 64).toNat = x / 4 := enc1 hx
  have e2 : (((0 * 256 + (x : Int)) % 65536 * 256 + y) % 65536 / (2 ^ 4 : Nat) % 64).toNat = x % 4 * 16 + y / 16 := enc2 hx hy
  have e3 : ((((0 * 256 + (x : Int)) % 65536 * 256 + y) % 65536 * 256 + z) % 65536 / (2 ^ 6 : Nat) % 64).toNat = y % 16 * 4 + z / 64 := enc3 hy hz
  have e4 : ((((0 * 256 + (x : Int)) % 65536 * 256 + y) % 65536 * 256 + z) % 65536 / (2 ^ 0 : Nat) % 64).toNat = z % 64 := enc4 hy hz
  rw [e1, e2, e3, e4]
theorem six_dec (x y z : Nat) (hx : x < 256) (hy : y < 256) (hz : z < 256) : (∀ u ∈ (sixF x y z).map fun s => (ALPHA.getD s 0).toUInt8, goodB u) ∧ (stA ((sixF x y z).map fun s => (ALPHA.getD s 0).toUInt8)).1 = 0 ∧
    (stA ((sixF x y z).map fun s => (ALPHA.getD s 0).toUInt8)).2.2.map (fun (m : Int) => m.toNat.toUInt8) = [x.toUInt8, y.toUInt8, z.toUInt8] := by
  have hs := six_small x y z hx hy hz
  refine ⟨fun u hu => ?_, by kernel_rfl, ?_⟩
  · obtain ⟨s, h, rfl⟩ := List.mem_map.mp hu
    obtain ⟨_, _, _, _, h5, h6⟩ := alpha_all s (hs s h)
    have := hs s h
    exact ⟨h6, by rw [h5]; omega, by rw [h5]; omega⟩
  · have hv : ∀ s ∈ sixF x y z, b64valF ((ALPHA.getD s 0).toUInt8.toNat : Int) = s := fun s h => (alpha_all s (hs s h)).2.2.2.2.1
    have h0 := hv (x / 4) (.head _)
    have h1 := hv (x % 4 * 16 + y / 16) (.tail _ (.head _))
    have h2 := hv (y % 16 * 4 + z / 64) (.tail _ (.tail _ (.head _)))
    have h3 := hv (z % 64) (.tail _ (.tail _ (.tail _ (.head _))))
    have e : (stA ((sixF x y z).map fun s => (ALPHA.getD s 0).toUInt8)).2.2 = [nlF 0 (b64valF ((ALPHA.getD (x / 4) 0).toUInt8.toNat : Int)) * 4 + b64valF ((ALPHA.getD (x % 4 * 16 + y / 16) 0).toUInt8.toNat : Int) / 16,
      nlF 1 (b64valF ((ALPHA.getD (x % 4 * 16 + y / 16) 0).toUInt8.toNat : Int)) * 16 + b64valF ((ALPHA.getD (y % 16 * 4 + z / 64) 0).toUInt8.toNat : Int) / 4,
      nlF 2 (b64valF ((ALPHA.getD (y % 16 * 4 + z / 64) 0).toUInt8.toNat : Int)) * 64 + b64valF ((ALPHA.getD (z % 64) 0).toUInt8.toNat : Int)] := by kernel_rfl
    rw [e, h0, h1, h2, h3]
    simp only [List.map_cons, List.map_nil]
    have e1 : (nlF 0 ((x / 4 : Nat) : Int) * 4 + ((x % 4 * 16 + y / 16 : Nat) : Int) / 16).toNat = x := dec1 hy
    have e2 : (nlF 1 ((x % 4 * 16 + y / 16 : Nat) : Int) * 16 + ((y % 16 * 4 + z / 64 : Nat) : Int) / 4).toNat = y := dec2 hy hz
    have e3 : (nlF 2 ((y % 16 * 4 + z / 64 : Nat) : Int) * 64 + ((z % 64 : Nat) : Int)).toNat = z := dec3 hz
    rw [e1, e2, e3]
theorem fm_congr {α β : Type} {l : List α} {f g : α → List β} (h : ∀ x ∈ l, f x = g x) : l.flatMap f = l.flatMap g := by
  induction l with
  | nil => rfl
  | cons a r ih => rw [List.flatMap_cons, List.flatMap_cons, h a (List.mem_cons_self ..), ih fun x hx => h x (List.mem_cons_of_mem _ hx)]
noncomputable def over (a b n : Nat) : Nat := if n = 0 then a else if n = 1 then b else n + a + b + 2
theorem over_inj {a b : Nat} (h : a ≠ b) (m n : Nat) : over a b m = over a b n ↔ m = n := by
  unfold over
  constructor
  · intro e
    split at e <;> split at e <;> (try split at e) <;> (try split at e) <;> omega
  · rintro rfl; rfl
section
variable {f : Nat → Nat} (hf : ∀ m n, f m = f n ↔ m = n)
include hf
theorem beq_f (m n : Nat) : (f m == f n) = (m == n) := by
  rw [Bool.eq_iff_iff, beq_iff_eq, beq_iff_eq]; exact hf m n
theorem beq_fl : ∀ l m : List Nat, (l.map f == m.map f) = (l == m)
  | [], [] => rfl
  | [], _ :: _ => rfl
  | _ :: _, [] => rfl
  | x :: l, y :: m => by
    rw [List.map_cons, List.map_cons]
    show (f x == f y && l.map f == m.map f) = (x == y && l == m)
    rw [beq_f hf, beq_fl l m]
theorem count_f (c : Nat) : ∀ l : List Nat, (l.map f).count (f c) = l.count c
  | [] => rfl
  | x :: l => by rw [List.map_cons, List.count_cons, List.count_cons, count_f c l, beq_f hf]
theorem weight_f (w : List Nat) (c : Nat) : weightF (w.map f) [f c] = weightF w [c] := by
  unfold weightF placesF
  have : (w.map f).zipIdx = w.zipIdx.map fun p => (f p.1, p.2) := by rw [List.zipIdx_map]; rfl
  rw [this, List.flatMap_map]
  congr 1
  refine fm_congr fun p _ => ?_
  show (if [f p.1] == [f c] then _ else _) = _
  rw [show ([f p.1] == [f c]) = ([p.1] == [c]) from beq_fl hf [p.1] [c]]
theorem next_f (held : List Nat) (p c : Nat) : nextF (held.map f) p (f c) = nextF held p c := by
  unfold nextF
  rw [← List.map_drop, ← List.map_take, show [f c] = [c].map f from rfl, beq_fl hf]
theorem rows_f (held : List Nat) (u v : Nat) : ∀ k, rowsF (held.map f) [f u, f v] k = (rowsF held [u, v] k).map fun r => (r.1.map f, r.2)
  | 0 => rfl
  | k + 1 => by
    unfold rowsF
    rw [rows_f held u v k, List.flatMap_map, List.map_flatMap]
    refine fm_congr fun r _ => ?_
    simp only [List.map_cons, List.map_nil, next_f hf, List.map_append]
theorem taken_f (held : List Nat) (u v : Nat) : takenF (held.map f) [f u, f v] = (takenF held [u, v]).map (List.map f) := by
  unfold takenF
  rw [rows_f hf, List.flatMap_map, List.map_flatMap, List.length_map]
  refine fm_congr fun r _ => ?_
  dsimp only
  split <;> rfl
theorem words_f (u v : Nat) : ∀ k, wordsF [f u, f v] k = (wordsF [u, v] k).map (List.map f)
  | 0 => rfl
  | k + 1 => by
    unfold wordsF
    rw [words_f u v k, List.flatMap_map, List.map_flatMap]
    refine fm_congr fun w _ => ?_
    simp only [List.map_cons, List.map_nil, List.map_append]
theorem down_f (w : List Nat) (b : Nat) (less : Int) : ∀ n, downF (w.map f) (f b) less n = downF w b less n
  | 0 => rfl
  | n + 1 => by unfold downF; rw [← List.map_drop, count_f hf, down_f w b less n]
theorem up_f (w : List Nat) (a : Nat) (k : Int) : ∀ n p, upF (w.map f) (f a) k n p = upF w a k n p
  | 0, p => rfl
  | n + 1, p => by unfold upF; rw [← List.map_take, count_f hf, up_f w a k n (p + 1)]
theorem laid_f (w : List Nat) (a b : Nat) (less : Int) : laidF (w.map f) (f a) (f b) less = (laidF w a b less).map f := by
  unfold laidF
  rw [count_f hf, List.length_map, down_f hf, up_f hf]
  split <;> simp [List.map_take, List.map_drop]
end
noncomputable def MendOk (a b : Nat) (w : List Nat) (p : Nat) : Prop :=
  (sevenF (weightF (w.take p ++ w.drop (p + 1)) [b])).Perm ((takenF (w.take p ++ w.drop (p + 1)) [a, b]).map fun u => weightF u [b]) ∧
  (takenF (w.take p ++ w.drop (p + 1)) [a, b]).filter (fun u => weightF u [b] % 7 == weightF w [b] % 7) = [w] ∧
  laidF (w.take p ++ w.drop (p + 1)) a b ((weightF w [b] % 7 - weightF (w.take p ++ w.drop (p + 1)) [b]) % 7) = w ∧
  (weightF w [b] % 7 - weightF (w.take p ++ w.drop (p + 1)) [b]) % 7 - (w.take p ++ w.drop (p + 1)).count b - 1 ≤ (w.take p ++ w.drop (p + 1)).count a
theorem mend_bits : ∀ w ∈ wordsF [0, 1] 6, ∀ p, p < 6 → MendOk 0 1 w p := by unfold MendOk; decide +kernel
theorem mend_all (a b : Nat) (hab : a ≠ b) (w : List Nat) (hw : w ∈ wordsF [a, b] 6) (p : Nat) (hp : p < 6) : MendOk a b w p := by
  have hf := over_inj hab
  have e0 : over a b 0 = a := rfl
  have e1 : over a b 1 = b := rfl
  have hwf : wordsF [a, b] 6 = (wordsF [0, 1] 6).map (List.map (over a b)) := words_f hf 0 1 6
  rw [hwf] at hw
  obtain ⟨v, hv, rfl⟩ := List.mem_map.mp hw
  obtain ⟨m1, m2, m3, m4⟩ := mend_bits v hv p hp
  have hw5 : (v.map (over a b)).take p ++ (v.map (over a b)).drop (p + 1) = (v.take p ++ v.drop (p + 1)).map (over a b) := by rw [List.map_append, List.map_take, List.map_drop]
  have wf : ∀ u : List Nat, weightF (u.map (over a b)) [b] = weightF u [1] := fun u => weight_f hf u 1
  have tf : ∀ u : List Nat, takenF (u.map (over a b)) [a, b] = (takenF u [0, 1]).map (List.map (over a b)) := fun u => taken_f hf u 0 1
  unfold MendOk
  rw [hw5, wf, wf, tf]
  refine ⟨?_, ?_, ?_, ?_⟩
  · rw [List.map_map]
    exact m1.trans (List.Perm.of_eq (List.map_congr_left fun u _ => (wf u).symm))
  · rw [List.filter_map]
    rw [show ((fun u => weightF u [b] % 7 == weightF v [1] % 7) ∘ List.map (over a b)) = fun u => weightF u [1] % 7 == weightF v [1] % 7 from funext fun u => by show (weightF (u.map (over a b)) [b] % 7 == _) = _; rw [wf]]
    rw [m2]; rfl
  · exact (laid_f hf (v.take p ++ v.drop (p + 1)) 0 1 _).trans (by rw [m3])
  · have c0 := count_f hf 0 (v.take p ++ v.drop (p + 1))
    have c1 := count_f hf 1 (v.take p ++ v.drop (p + 1))
    rw [e0] at c0; rw [e1] at c1
    rw [c0, c1]; exact m4
theorem idx_of : ∀ {l : List (List Nat)} {s : Nat} {w : List Nat}, l[s]? = some w → (∀ i, i < s → l[i]? ≠ some w) → l.idxOf w = s
  | [], s, w, h, _ => by simp at h
  | x :: l, 0, w, h, _ => by simp at h; subst h; simp
  | x :: l, s + 1, w, h, hn => by
    have hx : x ≠ w := fun q => hn 0 (Nat.succ_pos _) (by simp [q])
    have := idx_of (l := l) (s := s) (w := w) (by simpa using h) fun i hi q => hn (i + 1) (by omega) (by simpa using q)
    rw [List.idxOf_cons]
    have hb : (x == w) = false := by simpa using hx
    rw [hb, this]; rfl
theorem bits_apart : ∀ s, s < 64 → ∀ i, i < s → (wordsF [0, 1] 6)[i]? ≠ (wordsF [0, 1] 6)[s]? := by decide +kernel
theorem map_inj {f : Nat → Nat} (hf : ∀ m n, f m = f n ↔ m = n) (u v : List Nat) (h : u.map f = v.map f) : u = v := by
  have := beq_fl hf u v
  rw [h, beq_self_eq_true] at this
  exact (beq_iff_eq.mp this.symm)
theorem word_idx (a b : Nat) (hab : a ≠ b) (s : Nat) (h : s < 64) : (wordsF [a, b] 6).idxOf ((wordsF [a, b] 6).getD s []) = s ∧ ∀ i, i < s → (wordsF [a, b] 6)[i]? ≠ some ((wordsF [a, b] 6).getD s []) := by
  have hl : (wordsF [a, b] 6).length = 64 := by rw [wordsF_card]; rfl
  have hg : (wordsF [a, b] 6)[s]? = some ((wordsF [a, b] 6).getD s []) := by
    rw [List.getD_eq_getElem?_getD, List.getElem?_eq_getElem (by omega)]; rfl
  have hn : ∀ i, i < s → (wordsF [a, b] 6)[i]? ≠ some ((wordsF [a, b] 6).getD s []) := fun i hi q => by
    have hf := over_inj hab
    have hw : wordsF [a, b] 6 = (wordsF [0, 1] 6).map (List.map (over a b)) := words_f hf 0 1 6
    rw [← hg, hw, List.getElem?_map, List.getElem?_map] at q
    have hl0 : (wordsF [0, 1] 6).length = 64 := by rw [wordsF_card]; rfl
    refine bits_apart s h i hi ?_
    rw [List.getElem?_eq_getElem (by omega), List.getElem?_eq_getElem (by omega)] at q ⊢
    simp only [Option.map_some, Option.some.injEq] at q ⊢
    exact map_inj hf _ _ q
  exact ⟨idx_of hg hn, hn⟩
theorem stock_apart : ∀ i, i < 16 → ∀ j, j < 15 → stock.getD i 0 ∈ stock ∧ stock.getD ((i + 1 + j) % 16) 0 ∈ stock ∧ stock.getD i 0 ≠ stock.getD ((i + 1 + j) % 16) 0 := by decide +kernel
theorem pair_good (p : Int) (hp : 0 ≤ p ∧ p < 10000) {a b : Nat} (h : pairF p = [a, b]) : a ∈ stock ∧ b ∈ stock ∧ a ≠ b := by
  obtain ⟨n, rfl⟩ := Int.eq_ofNat_of_zero_le hp.1
  have q := stock_apart (n % 16) (Nat.mod_lt _ (by decide)) (n / 16 % 15) (Nat.mod_lt _ (by decide))
  have e : [stock.getD (n % 16) 0, stock.getD ((n % 16 + 1 + n / 16 % 15) % 16) 0] = [a, b] := h
  injection e with h1 h2
  injection h2 with h2 _
  rw [h1, h2] at q
  exact q
noncomputable def posF (text : List Nat) : Nat → Nat
  | 0 => 0
  | i + 1 => posF text i + (getF (text.drop (posF text i))).2
noncomputable def tokAt (text : List Nat) (i : Nat) : List Nat := (getF (text.drop (posF text i))).1
theorem quot_back (r : List Nat) : ∀ w : List Nat, quotF (w.flatMap escF ++ 34 :: r) = (w, (w.flatMap escF).length + 1)
  | [] => by cases r <;> simp [quotF]
  | c :: w => by
    have ih := quot_back r w
    unfold escF isQuote at ih ⊢
    rw [List.flatMap_cons]
    by_cases h : (c == 34 || c == 92) = true
    · rw [if_pos h]
      show quotF (92 :: (c :: (w.flatMap (fun c => if (c == 34 || c == 92) = true then [92, c] else [c]) ++ 34 :: r))) = _
      rw [quotF_esc]
      simp only [List.take_succ_cons, List.take_zero, List.drop_succ_cons, List.drop_zero, ih, List.length_append, List.length_cons, List.length_nil]
      exact congrArg (Prod.mk _) (by omega)
    · rw [if_neg h]
      have h34 : c ≠ 34 := fun q => h (by simp [q])
      have h92 : c ≠ 92 := fun q => h (by simp [q])
      show quotF (c :: (w.flatMap (fun c => if (c == 34 || c == 92) = true then [92, c] else [c]) ++ 34 :: r)) = _
      have q : ∀ v, quotF (c :: v) = (c :: (quotF v).1, (quotF v).2 + 1) := fun v => by cases v <;> simp [quotF, h34, h92]
      rw [q, ih]
      simp only [List.length_append, List.length_cons, List.length_nil]
      exact congrArg (Prod.mk _) (by omega)
theorem bare_back (k : Nat) (hk : k ∈ WS) (r : List Nat) : ∀ w : List Nat, bareF ((w.flatMap fun c => [92, c]) ++ k :: r) = (w, (w.flatMap fun c => [92, c]).length + 1)
  | [] => by
    show bareF (k :: r) = _
    cases r <;> simp [bareF, hk]
  | c :: w => by
    have ih := bare_back k hk r w
    rw [List.flatMap_cons]
    show bareF (92 :: (c :: ((w.flatMap fun c => [92, c]) ++ k :: r))) = _
    rw [bareF_esc]
    simp only [List.take_succ_cons, List.take_zero, List.drop_succ_cons, List.drop_zero, ih, List.length_append, List.length_cons, List.length_nil]
    exact congrArg (Prod.mk _) (by omega)
noncomputable def Gap (u : List Nat) : Prop := u = [] ∨ ∃ k ∈ WS, u = [k]
theorem get_gap {u : List Nat} (hu : Gap u) (v : List Nat) : getF (u ++ v) = ((getF v).1, (getF v).2 + u.length) := by
  rcases hu with rfl | ⟨k, hk, rfl⟩
  · rfl
  · show getF (k :: v) = _
    simp [getF, hk]
theorem get_back (q : Bool) (w : List Nat) (hw : w ≠ []) (k : Nat) (hk : k ∈ WS) (r : List Nat) : (getF (quoteF q w ++ k :: r)).1 = w ∧ ∃ u, Gap u ∧ (quoteF q w ++ k :: r).drop (getF (quoteF q w ++ k :: r)).2 = u ++ r := by
  have e34 : (34 : Nat) ∉ WS := by decide
  have e92 : (92 : Nat) ∉ WS := by decide
  cases q with
  | true =>
    have e : quoteF true w ++ k :: r = 34 :: (w.flatMap escF ++ 34 :: (k :: r)) := by simp [quoteF]
    have g : getF (34 :: (w.flatMap escF ++ 34 :: (k :: r))) = (w, (w.flatMap escF).length + 1 + 1) := by
      have : ∀ v, getF (34 :: v) = ((quotF v).1, (quotF v).2 + 1) := fun v => by simp [getF, e34]
      rw [this, quot_back]
    rw [e, g]
    refine ⟨rfl, [k], .inr ⟨k, hk, rfl⟩, ?_⟩
    show (34 :: (w.flatMap escF ++ 34 :: (k :: r))).drop ((w.flatMap escF).length + 1 + 1) = _
    rw [List.drop_succ_cons, show w.flatMap escF ++ 34 :: (k :: r) = (w.flatMap escF ++ [34]) ++ (k :: r) by simp, List.drop_left' (by simp)]; rfl
  | false =>
    cases w with
    | nil => exact absurd rfl hw
    | cons c w =>
      have e : quoteF false (c :: w) ++ k :: r = 92 :: (c :: ((w.flatMap fun c => [92, c]) ++ k :: r)) := by simp [quoteF]
      have g : getF (92 :: (c :: ((w.flatMap fun c => [92, c]) ++ k :: r))) = (c :: w, (w.flatMap fun c => [92, c]).length + 1 + 2) := by
        have : ∀ v, getF (92 :: v) = (v.take 1 ++ (bareF (v.drop 1)).1, (bareF (v.drop 1)).2 + 2) := fun v => by simp [getF, e92]
        rw [this, List.drop_succ_cons, List.drop_zero, bare_back k hk]; rfl
      rw [e, g]
      refine ⟨rfl, [], .inl rfl, ?_⟩
      show (92 :: c :: ((w.flatMap fun c => [92, c]) ++ k :: r)).drop ((w.flatMap fun c => [92, c]).length + 1 + 2) = _
      rw [show (w.flatMap fun c => [92, c]).length + 1 + 2 = ((w.flatMap fun c => [92, c]).length + 1) + 1 + 1 from rfl, List.drop_succ_cons, List.drop_succ_cons, show (w.flatMap fun c => [92, c]) ++ k :: r = ((w.flatMap fun c => [92, c]) ++ [k]) ++ r by simp, List.drop_left' (by simp)]; rfl
theorem cut_ws (k : Nat) : ∃ c ∈ WS, cutF k = [c] := by
  unfold cutF
  split
  · exact ⟨32, by decide, rfl⟩
  · exact ⟨10, by decide, rfl⟩
noncomputable def tailF (m : Int) (ps : List (List Nat × Nat)) : List Nat := ps.flatMap fun p => quoteF (manner m p.2) p.1 ++ cutF p.2
theorem lex_inv (m : Int) (ps : List (List Nat × Nat)) (hne : ∀ p ∈ ps, p.1 ≠ []) : ∀ i, i ≤ ps.length → ∃ u, Gap u ∧ (tailF m ps).drop (posF (tailF m ps) i) = u ++ tailF m (ps.drop i)
  | 0, _ => ⟨[], .inl rfl, rfl⟩
  | i + 1, hi => by
    obtain ⟨u, hu, e⟩ := lex_inv m ps hne i (by omega)
    obtain ⟨c, hc, ec⟩ := cut_ws (ps[i]'(by omega)).2
    have hd : ps.drop i = ps[i]'(by omega) :: ps.drop (i + 1) := List.drop_eq_getElem_cons (by omega)
    have et : tailF m (ps.drop i) = quoteF (manner m (ps[i]'(by omega)).2) (ps[i]'(by omega)).1 ++ c :: tailF m (ps.drop (i + 1)) := by
      rw [hd]; unfold tailF; rw [List.flatMap_cons, ec]; simp
    obtain ⟨g1, v, hv, g2⟩ := get_back (manner m (ps[i]'(by omega)).2) (ps[i]'(by omega)).1 (hne _ (List.getElem_mem _)) c hc (tailF m (ps.drop (i + 1)))
    refine ⟨v, hv, ?_⟩
    show (tailF m ps).drop (posF (tailF m ps) i + (getF ((tailF m ps).drop (posF (tailF m ps) i))).2) = _
    rw [← List.drop_drop, e, et, get_gap hu]
    show (u ++ _).drop (_ + u.length) = _
    rw [Nat.add_comm, ← List.drop_drop, List.drop_left, g2]
theorem lex_tok (m : Int) (ps : List (List Nat × Nat)) (hne : ∀ p ∈ ps, p.1 ≠ []) (i : Nat) (hi : i < ps.length) : tokAt (tailF m ps) i = (ps[i]'hi).1 := by
  obtain ⟨u, hu, e⟩ := lex_inv m ps hne i (by omega)
  obtain ⟨c, hc, ec⟩ := cut_ws (ps[i]'hi).2
  have hd : ps.drop i = ps[i]'hi :: ps.drop (i + 1) := List.drop_eq_getElem_cons hi
  have et : tailF m (ps.drop i) = quoteF (manner m (ps[i]'hi).2) (ps[i]'hi).1 ++ c :: tailF m (ps.drop (i + 1)) := by
    rw [hd]; unfold tailF; rw [List.flatMap_cons, ec]; simp
  obtain ⟨g1, _⟩ := get_back (manner m (ps[i]'hi).2) (ps[i]'hi).1 (hne _ (List.getElem_mem _)) c hc (tailF m (ps.drop (i + 1)))
  unfold tokAt
  rw [e, et, get_gap hu]; exact g1
theorem lex_end (m : Int) (ps : List (List Nat × Nat)) (hne : ∀ p ∈ ps, p.1 ≠ []) : tokAt (tailF m ps) ps.length = [] ∧ (tailF m ps).drop (posF (tailF m ps) (ps.length + 1)) = [] := by
  obtain ⟨u, hu, e⟩ := lex_inv m ps hne ps.length (Nat.le_refl _)
  rw [List.drop_length] at e
  have e' : (tailF m ps).drop (posF (tailF m ps) ps.length) = u ++ [] := e
  have g := get_gap hu []
  constructor
  · unfold tokAt; rw [e', g]; rfl
  · show (tailF m ps).drop (posF (tailF m ps) ps.length + (getF ((tailF m ps).drop (posF (tailF m ps) ps.length))).2) = _
    rw [← List.drop_drop, e', g]
    exact List.drop_of_length_le (by simp [getF])
theorem lex_all (m : Int) (ws : List (List Nat)) (n : Nat) (hn : ws.length = n) (hne : ∀ w ∈ ws, w ≠ []) : (List.range (n + 1)).map (tokAt (textF m ws)) = ws ++ [[]] ∧ lineF (textF m ws) (posF (textF m ws) (n + 1)) = 1 + ((textF m ws).count 10 : Nat) := by
  subst hn
  have ht : textF m ws = tailF m ws.zipIdx := rfl
  have hz : ∀ p ∈ ws.zipIdx, p.1 ≠ [] := fun p hp => hne _ (by have := List.fst_mem_of_mem_zipIdx hp; exact this)
  have hl : ws.zipIdx.length = ws.length := List.length_zipIdx
  obtain ⟨h1, h2⟩ := lex_end m ws.zipIdx hz
  rw [hl] at h1 h2
  rw [ht]
  constructor
  · rw [List.range_succ, List.map_append, List.map_cons, List.map_nil, h1]
    congr 1
    refine List.ext_getElem (by simp) fun i hi hi' => ?_
    rw [List.getElem_map, List.getElem_range, lex_tok m ws.zipIdx hz i (by rw [hl]; exact hi')]
    simp
  · unfold lineF
    rw [List.take_of_length_le]
    have := congrArg List.length h2
    rw [List.length_drop, List.length_nil] at this
    omega
theorem text_len (m : Int) (ws : List (List Nat)) (hw : ws.length ≤ 8) (hl : ∀ w ∈ ws, w.length ≤ 8) : (textF m ws).length ≤ 1000 := by
  have key : ∀ ps : List (List Nat × Nat), (∀ p ∈ ps, p.1.length ≤ 8) → (tailF m ps).length ≤ 20 * ps.length := by
    intro ps
    induction ps with
    | nil => intro _; simp [tailF]
    | cons p r ih =>
      intro h
      have h1 := ih fun q hq => h q (List.mem_cons_of_mem _ hq)
      have h2 := h p (List.mem_cons_self ..)
      have h3 : (quoteF (manner m p.2) p.1).length ≤ 18 := by
        unfold quoteF
        split
        · have : ∀ w : List Nat, (w.flatMap escF).length ≤ 2 * w.length := fun w => by
            induction w with
            | nil => simp
            | cons c w ih => rw [List.flatMap_cons, List.length_append, List.length_cons]; have : (escF c).length ≤ 2 := by unfold escF; split <;> simp
                             omega
          have := this p.1
          simp only [List.length_cons, List.length_append, List.length_nil]
          omega
        · have : ∀ w : List Nat, (w.flatMap fun c => [92, c]).length = 2 * w.length := fun w => by
            induction w with
            | nil => simp
            | cons c w ih => rw [List.flatMap_cons, List.length_append, List.length_cons, ih]; simp; omega
          rw [this]; omega
      have h4 : (cutF p.2).length = 1 := by unfold cutF; split <;> rfl
      show ((quoteF (manner m p.2) p.1 ++ cutF p.2) ++ tailF m r).length ≤ _
      rw [List.length_append, List.length_append, List.length_cons]
      omega
  have := key ws.zipIdx fun p hp => hl _ (List.fst_mem_of_mem_zipIdx hp)
  rw [List.length_zipIdx] at this
  show (tailF m ws.zipIdx).length ≤ _
  omega
noncomputable def drawnF (ns : List Int) : List Int := (ns.take 3).map fun i => i % 1000000
noncomputable def numbersF (ns : List Int) : List Int := drawnF ns ++ ([24909, 49518, 13790] : List Int).drop (drawnF ns).length
theorem numbers_three (ns : List Int) : ∃ a b c : Int, numbersF ns = [a, b, c] ∧ (0 ≤ a ∧ a < 1000000) ∧ (0 ≤ b ∧ b < 1000000) ∧ (0 ≤ c ∧ c < 1000000) := by
  unfold numbersF drawnF
  match ns with
  | [] => exact ⟨24909, 49518, 13790, rfl, by omega, by omega, by omega⟩
  | [a] => exact ⟨a % 1000000, 49518, 13790, rfl, by omega, by omega, by omega⟩
  | [a, b] => exact ⟨a % 1000000, b % 1000000, 13790, rfl, by omega, by omega, by omega⟩
  | a :: b :: c :: r => exact ⟨a % 1000000, b % 1000000, c % 1000000, rfl, by omega, by omega, by omega⟩
theorem bin_pow10 {k : Int} (h : 0 ≤ k ∧ k ≤ 1000000) : BinIs .Pow (.int 10) (.int k) (.int (10 ^ k.toNat)) := bin_pow h.1 h.2 (by decide)
theorem cut_takeA {α : Type} (l : List α) (k : Nat) : cut l none (some (k : Int)) = l.take k := by
  unfold cut
  simp only [Option.elim_none, Option.elim_some, List.drop_zero, Nat.sub_zero]
  have : clipAt l.length (k : Int) = min k l.length := clip_nat _ _
  rw [this, List.take_eq_take_iff]; omega
theorem cut_dropA {α : Type} (l : List α) (k : Nat) : cut l (some (k : Int)) none = l.drop k := by
  unfold cut
  simp only [Option.elim_none, Option.elim_some]
  have : clipAt l.length (k : Int) = min k l.length := clip_nat _ _
  rw [this]
  by_cases h : k ≤ l.length
  · rw [Nat.min_eq_left h, List.take_of_length_le]; rw [List.length_drop]; exact Nat.le_refl _
  · rw [Nat.min_eq_right (by omega), List.drop_length, List.drop_of_length_le (by omega), List.take_nil]
theorem cut_dints (ns : List Int) : cut (dints ns) none (some 3) = dints (ns.take 3) := by
  unfold dints
  rw [List.map_take]
  exact cut_takeA _ 3
theorem word_at (a b : Nat) {s : Nat} (h : s < 64) : (dstrs (wordsF [a, b] 6))[s]? = some (.str ((wordsF [a, b] 6).getD s [])) := by
  have hl : (wordsF [a, b] 6).length = 64 := by rw [wordsF_card]; rfl
  rw [dstrs, List.getElem?_map, List.getD_eq_getElem?_getD, List.getElem?_eq_getElem (by omega)]; rfl
theorem word_len (a b : Nat) {s : Nat} (h : s < 64) : ((wordsF [a, b] 6).getD s []).length = 6 := by
  have hl : (wordsF [a, b] 6).length = 64 := by rw [wordsF_card]; rfl
  rw [List.getD_eq_getElem?_getD, List.getElem?_eq_getElem (by omega)]
  exact wordsF_len [a, b] 6 _ (List.getElem_mem _)
noncomputable def signAt (W : List (List Nat)) (d : D) : D := .str (W.getD (ALPHA.idxOf (d.s.headD 0)) [])
noncomputable def lostF (n2 : Int) : List Int := (List.range 4).map fun k => n2 / 6 ^ k % 6
noncomputable def cutAt (d : D) : D := .str (d.fst.s.take d.snd.i.toNat ++ d.fst.s.drop (d.snd.i.toNat + 1))
noncomputable def sentF (a b x y z : Nat) : List (List Nat) := (sixF x y z).map fun s => (wordsF [a, b] 6).getD s []
noncomputable def shortF (ws : List (List Nat)) (ps : List Int) : List (List Nat) := (ws.zip ps).map fun p => p.1.take p.2.toNat ++ p.1.drop (p.2.toNat + 1)
noncomputable def figF (b : Nat) (w : List Nat) : Nat := 48 + (weightF w [b] % 7).toNat
noncomputable def textL (a b x y z : Nat) (n2 : Int) : List (List Nat) := shortF (sentF a b x y z) (lostF n2) ++ [(sentF a b x y z).map (figF b)]
theorem short_is (ws : List (List Nat)) (ps : List Int) : dstrs (shortF ws ps) = (zipped (dstrs ws) (dints ps)).map cutAt := by
  unfold shortF zipped dstrs dints
  rw [List.zip_map, List.map_map, List.map_map, List.map_map]
  rfl
theorem join_ones (h : List Nat → Nat) (ws : List (List Nat)) : joinL [] (ws.map fun w => [h w]) = ws.map h := by
  cases ws with
  | nil => rfl
  | cons w r =>
    show [h w] ++ ((r.map fun w => [h w]).flatMap fun q => [] ++ q) = h w :: r.map h
    have : ∀ l : List (List Nat), ((l.map fun w => [h w]).flatMap fun q => [] ++ q) = l.map h := fun l => by
      induction l with
      | nil => rfl
      | cons a l ih => rw [List.map_cons, List.flatMap_cons, ih]; rfl
    rw [this]; rfl
theorem words_over (a b : Nat) : ∀ k, ∀ w ∈ wordsF [a, b] k, ∀ c ∈ w, c = a ∨ c = b
  | 0, w, h, c, hc => by rw [List.mem_singleton.mp h] at hc; cases hc
  | k + 1, w, h, c, hc => by
    obtain ⟨v, hv, h'⟩ := List.mem_flatMap.mp h
    obtain ⟨e, he, rfl⟩ := List.mem_map.mp h'
    rcases List.mem_append.mp hc with h1 | h1
    · exact words_over a b k v hv c h1
    · rw [List.mem_singleton.mp h1]; simpa using he
theorem word_in (a b : Nat) {s : Nat} (h : s < 64) : (wordsF [a, b] 6).getD s [] ∈ wordsF [a, b] 6 := by
  have hl : (wordsF [a, b] 6).length = 64 := by rw [wordsF_card]; rfl
  rw [List.getD_eq_getElem?_getD, List.getElem?_eq_getElem (by omega)]
  exact List.getElem_mem _
theorem short_told (a b x y z : Nat) (n2 : Int) (hs : ∀ s ∈ sixF x y z, s < 64) : ∀ w ∈ shortF (sentF a b x y z) (lostF n2), w.length = 5 ∧ ∀ c ∈ w, c = a ∨ c = b := fun w hw => by
  obtain ⟨⟨v, q⟩, hvq, rfl⟩ := List.mem_map.mp hw
  have hv := (List.of_mem_zip hvq).1
  have hq := (List.of_mem_zip hvq).2
  obtain ⟨s, h, rfl⟩ := List.mem_map.mp hv
  obtain ⟨k, hk, rfl⟩ := List.mem_map.mp hq
  have hl := word_len a b (hs s h)
  refine ⟨?_, fun c hc => words_over a b 6 _ (word_in a b (hs s h)) c ?_⟩
  · dsimp only
    rw [List.length_append, List.length_take, List.length_drop, hl]; omega
  · rcases List.mem_append.mp hc with h | h
    · exact List.mem_of_mem_take h
    · exact List.mem_of_mem_drop h
theorem weight_fig {b : Nat} (w : List Nat) : 48 + (weightF w [b] % 7).toNat < 55 ∧ Str.ofString (toString (weightF w [b] % 7)) = tx [48 + (weightF w [b] % 7).toNat] ∧ PySem.intText? (tx [48 + (weightF w [b] % 7).toNat]) = some (weightF w [b] % 7) := by
  have h : weightF w [b] % 7 = 0 ∨ weightF w [b] % 7 = 1 ∨ weightF w [b] % 7 = 2 ∨ weightF w [b] % 7 = 3 ∨ weightF w [b] % 7 = 4 ∨ weightF w [b] % 7 = 5 ∨ weightF w [b] % 7 = 6 := by omega
  rcases h with h | h | h | h | h | h | h <;> rw [h] <;> exact ⟨by decide, by rfl, by kernel_rfl⟩
theorem cov_of {cl : List (Str × Addr)} {ρ : Loc} (h : (cl.all fun p => (ρ.lookup p.1).isSome) = true) : ∀ y c, cl.lookup y = some c → ∃ d, ρ.lookup y = some d := fun y c e =>
  Option.isSome_iff_exists.mp (List.all_eq_true.mp h _ (mem_of_lookup e))
theorem keys_mid (x : Addr × OO) (A B : Own) : (keysOf (A ++ x :: B)).Nodup ↔ (keysOf (x :: (A ++ B))).Nodup := by
  unfold keysOf
  exact (List.Perm.map _ List.perm_middle).nodup_iff
theorem osub_mid (x : Addr × OO) (A B : Own) : OSub (A ++ x :: B) (x :: (A ++ B)) := fun p hp => List.perm_middle.mem_iff.mp hp
theorem osub_front (x : Addr × OO) (A B : Own) : OSub (x :: (A ++ B)) (A ++ x :: B) := fun p hp => List.perm_middle.mem_iff.mpr hp
theorem textL_told (a b x y z : Nat) (n2 : Int) (hs : ∀ s ∈ sixF x y z, s < 64) (ha : a < 0x110000) (hb : b < 0x110000) : ∀ w ∈ textL a b x y z n2, w ≠ [] ∧ w.length ≤ 8 ∧ ∀ c ∈ w, c < 0x110000 := fun w hw => by
  rcases List.mem_append.mp hw with h | h
  · obtain ⟨h1, h2⟩ := short_told a b x y z n2 hs w h
    refine ⟨fun q => (by rw [q] at h1; cases h1), by omega, fun c hc => ?_⟩
    rcases h2 c hc with rfl | rfl
    · exact ha
    · exact hb
  · rw [List.mem_singleton.mp h]
    refine ⟨List.cons_ne_nil _ _, lenk (by kernel_rfl), fun c hc => ?_⟩
    obtain ⟨v, _, rfl⟩ := List.mem_map.mp hc
    have := (weight_fig (b := b) v).1
    unfold figF; omega
section
variable {P : Params} {G : Gd} (hK : G.K = K01 P)
include hK
set_option maxHeartbeats 8000000
theorem law_is (ns : List Int) (hns : ns.length ≤ 1000) : FnG G 300 (.ref 276) [.list (dints ns)] [(201, pitL), (64, pit)] (fun d c' => d = .bool true ∧ (201, pitL) ∈ c' ∧ (64, pit) ∈ c') := by
  refine (fnG_K (n := 299) hK [("script", .list (dints ns))] [(201, pitL), (64, pit)] (R := fun d c' => d = .bool true ∧ (201, pitL) ∈ c' ∧ (64, pit) ∈ c') (R' := fun _ d _ c' => d = .bool true ∧ (201, pitL) ∈ c' ∧ (64, pit) ∈ c') rfl rfl rfl ?_ rfl rfl rfl rfl rfl rfl rfl rfl ?_ no_cells)
  · intro vs hv; obtain ⟨a, rfl⟩ := len1 hv; kernel_rfl
  intro G' hK' hH X L
  obtain ⟨n0, n1, n2, hn, hn0, hn1, hn2⟩ := numbers_three ns
  refine ex_comp (ds := dints (ns.take 3)) (ρc := []) (out := dints (drawnF ns)) (by kernel_rfl) rfl (src_of (ev_eq (ev_cut_list (l := dints ns) ?_ evp_none (evp_some ev_int) ?_) ?_) iter_list) (fun _ => rfl) rfl (scopeOk_kind rfl) (scopeOk_names rfl) (scopeOk_cell rfl) ?_ (fun C da => ?_) ?_ ?_
  · repeat' (walk_at "one")
  · refine small (by simp [dints]; omega)
  · rw [cut_dints]
  · walk_at "fsubs"
  · have e : dints (drawnF ns) = (dints (ns.take 3)).map fun d => D.int (d.i % 1000000) := by simp only [dints, drawnF, List.map_map]; rfl
    rw [e]
    refine loops_map _ rfl rfl fun d hd done => ?_
    obtain ⟨v, hv, rfl⟩ := mem_dints hd
    refine ev_binop (ev_callT (ds := [.int v]) ?_ ?_ rfl fn_int_int rfl) (ev_binop ev_int ev_int (bin_pow10 (by decide))) (bin_mod (by decide))
    · repeat' (walk_at "one")
    · repeat' (walk_at "one")
  · refine small (by simp [dints, drawnF]; omega)
  refine ex_assign (d := .list (dints [n0, n1, n2])) (by kernel_rfl) rfl (ev_eq (ev_binop ?_ (ev_cut_list (l := dints [24909, 49518, 13790]) (i := some ((drawnF ns).length : Int)) (j := none) (ev_list ?_ (by decide)) (evp_some (ev_eq (ev_callB (ds := [.list (dints (drawnF ns))]) ?_ ?_ rfl (fn_len_list ?_) rfl) ?_)) evp_none (by decide)) (bin_lists (a := dints (drawnF ns)) (b := cut (dints [24909, 49518, 13790]) (some ((drawnF ns).length : Int)) none) ?_)) ?_) ?_
  · repeat' (walk_at "one")
  · show EvAll _ _ _ _ _ _ [D.int 24909, D.int 49518, D.int 13790]
    repeat' (walk_at "one")
  · repeat' (walk_at "one")
  · repeat' (walk_at "one")
  · simp [dints, drawnF]; omega
  · simp [dints]
  · refine small ?_
    rw [cut_dropA]
    simp [dints, drawnF]; omega
  · rw [cut_dropA, ← hn]; simp [dints, numbersF, List.map_drop]
  obtain ⟨x, hx⟩ : ∃ x : Nat, n0 % 256 = (x : Int) := ⟨(n0 % 256).toNat, by omega⟩
  obtain ⟨y, hy⟩ : ∃ y : Nat, n0 / 256 % 256 = (y : Int) := ⟨(n0 / 256 % 256).toNat, by omega⟩
  obtain ⟨z, hz⟩ : ∃ z : Nat, n1 % 256 = (z : Int) := ⟨(n1 % 256).toNat, by omega⟩
  have hx2 : x < 256 := by omega
  have hy2 : y < 256 := by omega
  have hz2 : z < 256 := by omega
  refine ex_assign (d := .bytes [x.toUInt8, y.toUInt8, z.toUInt8]) (by kernel_rfl) rfl (ev_eq (ev_callT (T := "bytes") (ds := [.list (dints [n0 % 256, n0 / 256 % 256, n1 % 256])]) ?_ (evAll_cons (by intro _ _ h; cases h) (ev_list ?_ (by show 3 ≤ sizeLine; decide)) evAll_nil) rfl (fn_bytes ?_ ?_) rfl) ?_) ?_
  · repeat' (walk_at "one")
  · show EvAll _ _ _ _ _ _ [D.int (n0 % 256), D.int (n0 / 256 % 256), D.int (n1 % 256)]
    repeat' (walk_at "one")
    all_goals first | exact item_list (by decide) rfl (by decide) | decide
  · intro m hm
    simp only [List.mem_cons, List.not_mem_nil, or_false] at hm
    omega
  · show 3 ≤ sizeLine; decide
  · rw [hx, hy, hz]; rfl
  have hpick : 0 ≤ n1 / 256 ∧ n1 / 256 < 10000 := by omega
  refine ex_assign (d := .str (pairF (n1 / 256))) (by kernel_rfl) rfl (ev_call (f := 220) (ds := [.int (n1 / 256)]) ?_ (by rw [hK']; kernel_rfl) ?_ rfl ((pair_is hK' (n1 / 256) hpick).le (by decide)) rfl) ?_
  · repeat' (walk_at "one")
  · repeat' (walk_at "one")
    all_goals first | exact item_list (by decide) rfl (by decide) | decide
  obtain ⟨a, b, hpr⟩ : ∃ a b, pairF (n1 / 256) = [a, b] := ⟨_, _, rfl⟩
  rw [hpr]
  refine ex_assign (d := .list (dstrs (wordsF [a, b] 6))) (by kernel_rfl) rfl (ev_call (f := 225) (ds := [.str [a, b]]) ?_ (by rw [hK']; kernel_rfl) ?_ rfl ((words_is hK' [a, b] rfl).le (by decide)) rfl) ?_
  · repeat' (walk_at "one")
  · repeat' (walk_at "one")
  have hsix := six_small x y z hx2 hy2 hz2
  obtain ⟨he1, he2⟩ := six_enc x y z hx2 hy2 hz2
  have h64 : ∀ s : Nat, (B64.getD s 0).toNat < 128 := b64_small
  have hcs : ([(B64.getD (x / 4) 0).toNat, (B64.getD (x % 4 * 16 + y / 16) 0).toNat, (B64.getD (y % 16 * 4 + z / 64) 0).toNat, (B64.getD (z % 64) 0).toNat] : List Nat) = (sixF x y z).map fun s => ALPHA.getD s 0 := by
    simp only [sixF, List.map_cons, List.map_nil]
    rw [(alpha_get _ (hsix _ (.head _))).1, (alpha_get _ (hsix _ (.tail _ (.head _)))).1, (alpha_get _ (hsix _ (.tail _ (.tail _ (.head _))))).1, (alpha_get _ (hsix _ (.tail _ (.tail _ (.tail _ (.head _)))))).1]
  refine ex_comp (ds := signs ((sixF x y z).map fun s => ALPHA.getD s 0)) (ρc := [("words", .list (dstrs (wordsF [a, b] 6)))]) (out := dstrs (sentF a b x y z)) (by kernel_rfl) rfl (src_of (ev_eq (ev_meth (id := "bytes.decode") (d₀ := .bytes ((sixF x y z).map fun s => B64.getD s 0)) (ds := [.str (S "ascii")]) (ev_eq (ev_call (f := 149) (ds := [.bytes [x.toUInt8, y.toUInt8, z.toUInt8]]) ?_ (by rw [hK']; kernel_rfl) ?_ rfl ((b64encode_is hK' [x.toUInt8, y.toUInt8, z.toUInt8] (by simp) he1).le (by decide)) rfl) (by rw [he2])) (meth_bytes FB.plainAttrs_bytes FB.slot_bytes_decode FB.type_bytes_decode) ?_ rfl (fn_decode4 ⟨h64 _, h64 _, h64 _, h64 _⟩) rfl) (congrArg D.str hcs)) iter_str) (fun _ => rfl) rfl (scopeOk_kind rfl) (scopeOk_names rfl) (scopeOk_cell rfl) ?_ (fun C da => ?_) ?_ ?_
  · repeat' (walk_at "one")
  · repeat' (walk_at "one")
  · repeat' (walk_at "one")
  · walk_at "fsubs"
  · have e : dstrs (sentF a b x y z) = (signs ((sixF x y z).map fun s => ALPHA.getD s 0)).map (signAt (wordsF [a, b] 6)) := by
      simp only [dstrs, signs, sentF, List.map_map]
      refine List.map_congr_left fun s hs => ?_
      show D.str _ = D.str ((wordsF [a, b] 6).getD (ALPHA.idxOf (ALPHA.getD s 0)) [])
      rw [(alpha_get s (hsix s hs)).2.2.1]
    rw [e]
    refine loops_map _ rfl rfl fun d hd done => ?_
    obtain ⟨c, hc, rfl⟩ := mem_signs hd
    obtain ⟨s, hs, rfl⟩ := List.mem_map.mp hc
    obtain ⟨h1, h2, h3, r, h4⟩ := alpha_get s (hsix s hs)
    show Ev _ _ _ _ _ _ (.str ((wordsF [a, b] 6).getD (ALPHA.idxOf (ALPHA.getD s 0)) []))
    rw [h3]
    refine ev_item rfl ?_ (ev_sindex rfl rfl (ev_call0 (f := 213) ?_ (by rw [hK']; kernel_rfl) ((alphabet_is hK').le (by decide)) rfl) ?_ h4) (item_list (ds := dstrs (wordsF [a, b] 6)) (by omega) ?_ ?_)
    · repeat' (walk_at "one")
    · repeat' (walk_at "one")
    · repeat' (walk_at "one")
    · rw [Int.toNat_natCast]; exact word_at a b (hsix s hs)
    · have := hsix s hs; omega
  · exact small (lenk (by kernel_rfl))
  refine ex_comp (ds := zs 0 4) (ρc := [("numbers", .list (dints [n0, n1, n2]))]) (out := dints (lostF n2)) (by kernel_rfl) rfl (src_of (ev_callT (d := .rng 0 4) ?_ ?_ rfl fn_range1 rfl) (iter_rng rfl)) (fun _ => rfl) rfl (scopeOk_kind rfl) (scopeOk_names rfl) (scopeOk_cell rfl) ?_ (fun C da => ?_) ?_ ?_
  · repeat' (walk_at "one")
  · repeat' (walk_at "one")
  · walk_at "fsubs"
  · have e : dints (lostF n2) = (zs 0 4).map fun d => D.int (n2 / 6 ^ d.i.toNat % 6) := by
      simp only [dints, lostF, zs, List.map_map]
      refine List.map_congr_left fun k hk => ?_
      show D.int (n2 / 6 ^ k % 6) = D.int (n2 / 6 ^ (0 + (k : Int)).toNat % 6)
      simp
    rw [e]
    refine loops_map _ rfl rfl fun d hd done => ?_
    obtain ⟨k, hk, rfl⟩ := List.mem_map.mp hd
    have hk4 := List.mem_range.mp hk
    have hpw : (0 : Int) < 6 ^ (0 + (k : Int)).toNat ∧ (6 : Int) ^ (0 + (k : Int)).toNat < 1073741824 := by
      have : k = 0 ∨ k = 1 ∨ k = 2 ∨ k = 3 := by omega
      rcases this with rfl | rfl | rfl | rfl <;> decide
    refine ev_binop (ev_binop (ev_item rfl ?_ ev_int (item_list (ds := dints [n0, n1, n2]) (by decide) rfl (by decide))) (ev_binop ev_int ?_ (bin_pow6 (by omega))) (bin_div' hpw)) ev_int (bin_mod (by decide))
    · repeat' (walk_at "one")
    · repeat' (walk_at "one")
  · exact small (lenk (by kernel_rfl))
  refine ex_comp (ds := zipped (dstrs (sentF a b x y z)) (dints (lostF n2))) (ρc := []) (out := dstrs (shortF (sentF a b x y z) (lostF n2))) (by kernel_rfl) rfl (src_mk rfl rfl ?_ ?_ mk_zip_lists) (fun _ => rfl) rfl (scopeOk_kind rfl) (scopeOk_names rfl) (scopeOk_cell rfl) ?_ (fun C da => ?_) ?_ ?_
  · repeat' (walk_at "one")
  · repeat' (walk_at "one")
  · walk_at "fsubs"
  · rw [show dstrs (shortF (sentF a b x y z) (lostF n2)) = (zipped (dstrs (sentF a b x y z)) (dints (lostF n2))).map cutAt from short_is _ _]
    refine loops_pmap D.fst D.snd cutAt rfl rfl rfl rfl (fun d hd => ?_) (fun d hd done => ?_)
    · obtain ⟨x, _, y, _, rfl⟩ := mem_zipped hd; exact unp_tup
    · obtain ⟨u, hu, v, hv, rfl⟩ := mem_zipped hd
      obtain ⟨w, hw, rfl⟩ := mem_dstrs hu
      obtain ⟨i, hi, rfl⟩ := mem_dints hv
      obtain ⟨k, hk, rfl⟩ := List.mem_map.mp hi
      obtain ⟨p, hp⟩ : ∃ p : Nat, n2 / 6 ^ k % 6 = (p : Int) := ⟨(n2 / 6 ^ k % 6).toNat, by omega⟩
      rw [hp]
      have hw6 : w.length ≤ 6 := by
        obtain ⟨s, hs, rfl⟩ := List.mem_map.mp hw
        exact Nat.le_of_eq (word_len a b (hsix s hs))
      show Ev G' _ _ [("place", .int (p : Int)), ("word", .str w)] _ _ (.str (w.take p ++ w.drop (p + 1)))
      refine ev_binop (ev_eq (ev_cut_str (i := none) (j := some (p : Int)) (l := w) ?_ evp_none (evp_some ?_) (small (by omega))) (by rw [cut_takeA])) (ev_eq (ev_cut_str (i := some (p + 1 : Int)) (j := none) (l := w) ?_ (evp_some (ev_binop ?_ ev_int bin_add)) evp_none (small (by omega))) (congrArg D.str (cut_dropA w (p + 1)))) (bin_cat' (by simp; omega))
      · repeat' (walk_at "one")
      · repeat' (walk_at "one")
      · repeat' (walk_at "one")
      · repeat' (walk_at "one")
  · exact small (lenk (by kernel_rfl))
  refine ex_assign (d := .str ((sentF a b x y z).map (figF b))) (by kernel_rfl) rfl (ev_eq (ev_join (ps := (sentF a b x y z).map fun w => [figF b w]) rfl rfl (ev_litE (l := []) rfl) (ev_comp (ds := dstrs (sentF a b x y z)) (ρc := [("pair", .str [a, b])]) (out := dstrs ((sentF a b x y z).map fun w => [figF b w])) (src_of ?_ iter_list) (fun _ => rfl) rfl (scopeOk_kind rfl) (scopeOk_names rfl) (scopeOk_cell rfl) ?_ (fun C da => ?_) ?_) ?_) ?_) ?_
  · repeat' (walk_at "one")
  · walk_at "fsubs"
  · have e : dstrs ((sentF a b x y z).map fun w => [figF b w]) = (dstrs (sentF a b x y z)).map fun d => D.str [figF b d.s] := by
      simp only [dstrs, List.map_map]; rfl
    rw [e]
    refine loops_map _ rfl rfl fun d hd done => ?_
    obtain ⟨w, hw, rfl⟩ := mem_dstrs hd
    have hw6 : w.length = 6 := by
      obtain ⟨s, hs, rfl⟩ := List.mem_map.mp hw
      exact word_len a b (hsix s hs)
    refine ev_callT (ds := [.int (weightF w [b] % 7)]) ?_ (evAll_cons (by intro _ _ h; cases h) (ev_binop (ev_call (f := 230) (ds := [.str w, .str [b]]) ?_ (by rw [hK']; kernel_rfl) (evAll_cons (by intro _ _ h; cases h) ?_ (evAll_cons (by intro _ _ h; cases h) (ev_eq (ev_item rfl ?_ ev_int (item_str0 (l := [a, b]) (by simp) (by simp))) rfl) evAll_nil)) rfl ((weight_is hK' w [b] (by omega)).le (by decide)) rfl) ev_int (bin_mod (by decide))) evAll_nil) rfl (fn_str_int (weight_fig w).2.1 ?_) rfl
    · repeat' (walk_at "one")
    · repeat' (walk_at "one")
    · repeat' (walk_at "one")
    · repeat' (walk_at "one")
    · have : (weightF w [b] % 7).natAbs < 7 := by omega
      by_cases h0 : (weightF w [b] % 7).natAbs = 0
      · rw [h0]; decide
      · have := (Nat.log2_lt h0 (k := 3)).mpr (by omega)
        omega
  · exact small (lenk (by kernel_rfl))
  · exact lenk (by kernel_rfl)
  · rw [join_ones]
  have hM : 0 ≤ n2 / 1296 := by omega
  refine ex_assign (d := .str (textF (n2 / 1296) (textL a b x y z n2))) (by kernel_rfl) rfl (ev_call (f := 235) (ds := [.list (dstrs (textL a b x y z n2)), .int (n2 / 1296)]) ?_ (by rw [hK']; kernel_rfl) (evAll_cons (by intro _ _ h; cases h) (ev_eq (ev_binop ?_ (ev_list (ds := [.str ((sentF a b x y z).map (figF b))]) ?_ (by show 1 ≤ sizeLine; decide)) (bin_lists (a := dstrs (shortF (sentF a b x y z) (lostF n2))) ?_)) ?_) ?_) rfl ((text_is hK' (n2 / 1296) hM (textL a b x y z n2) ?_ ?_).le (by decide)) rfl) ?_
  · repeat' (walk_at "one")
  · repeat' (walk_at "one")
  · repeat' (walk_at "one")
  · exact small (lenk (by kernel_rfl))
  · kernel_rfl
  · repeat' (walk_at "one")
    all_goals first | exact item_list (ds := dints [n0, n1, n2]) (by decide) rfl (by decide) | decide
  · exact lenk (by kernel_rfl)
  · intro w hw
    rcases List.mem_append.mp hw with h | h
    · have := (short_told a b x y z n2 hsix w h).1; omega
    · rw [List.mem_singleton.mp h]; exact lenk (by kernel_rfl)
  obtain ⟨has, hbs, hab⟩ := pair_good _ hpick hpr
  have htold := textL_told a b x y z n2 hsix (stock_small _ has) (stock_small _ hbs)
  have htl : (textF (n2 / 1296) (textL a b x y z n2)).length ≤ 1000 := text_len _ _ (lenk (by kernel_rfl)) fun w hw => (htold w hw).2.1
  generalize htext : textF (n2 / 1296) (textL a b x y z n2) = text at *
  refine ex_assignG (by kernel_rfl) rfl (evG_call (c := [(201, pitL)]) (r := [(64, pit)]) (f := 206) (ds := [.str text]) ?_ (by rw [hK']; kernel_rfl) ?_ rfl ((lexer_is hK' text).le (by decide)) rfl) ?_
  · repeat' (walk_at "one")
  · repeat' (walk_at "one")
  rintro d w ⟨c', ⟨lx, rfl, rfl⟩, rfl⟩ hfresh
  obtain ⟨htok, hline⟩ : (List.range 6).map (tokAt text) = textL a b x y z n2 ++ [[]] ∧ lineF text (posF text 6) = 1 + (text.count 10 : Nat) := by
    rw [← htext]; exact lex_all _ _ 5 (by kernel_rfl) fun w hw => (htold w hw).1
  refine ex_compG (ρc := [("lexer", .inst 195 lx.dl)]) (ds := zs 0 6) (outs := dstrs ((List.range 6).map (tokAt text))) (fun i => lexOwn P lx text (posF text i) [] ++ [(lx.spb, .list []), (201, pitL), (64, pit)]) (by kernel_rfl) rfl (src_of (ev_callT (d := .rng 0 6) ?_ ?_ rfl fn_range1 rfl) (iter_rng rfl)) (fun _ => rfl) rfl (scopeOk_kind rfl) (scopeOk_names rfl) (scopeOk_cell rfl) ?_ (cov_of (by kernel_rfl)) rfl (fun _ => rfl) rfl (fun C DA i d d' hd hd' => ?_) ?_ ?_
  · repeat' (walk_at "one")
  · repeat' (walk_at "one")
  · walk_at "fsubs"
  · have hd2 : d' = .str (tokAt text i) := by
      simp only [dstrs, List.getElem?_map, List.map_map] at hd'
      have hi : i < 6 := by
        rcases Nat.lt_or_ge i 6 with h | h
        · exact h
        · rw [List.getElem?_eq_none (by simpa using h)] at hd'; cases hd'
      rw [List.getElem?_range hi] at hd'
      exact (Option.some.inj hd').symm
    subst hd2
    refine turnG_name rfl rfl (EvG.inn (ow' := lexOwn P lx text (posF text i) [] ++ (DA, .list ((dstrs ((List.range 6).map (tokAt text))).take i)) :: [(lx.spb, .list []), (201, pitL), (64, pit)]) (osub_mid _ _ _) (keys_mid _ _ _).mpr (EvG.own (evG_imeth0 (C := 195) (dx := lx.dl) (f := 185) (fs := lexNs 195 (lineF text (posF text i)) (.inst 195 lx.ds) lx.pb) (c := lexOwn P lx text (posF text i) []) (r := (DA, .list ((dstrs ((List.range 6).map (tokAt text))).take i)) :: [(lx.spb, .list []), (201, pitL), (64, pit)]) rfl ?_ ?_ rfl (by rw [hK']; kernel_rfl) (by rw [hK']; kernel_rfl) (by rw [hK']; kernel_rfl) ((get_is hK' lx text htl (posF text i) (tokAt text i) (posF text (i + 1)) rfl rfl).le (by decide))) ?_))
    · repeat' (walk_at "one")
    · simp
    · rintro d w ⟨c', ⟨rfl, rfl⟩, rfl⟩
      exact ⟨_, ⟨rfl, rfl⟩, osub_front _ _ _, (keys_mid _ _ _).mp⟩
  · exact small (lenk (by kernel_rfl))
  rw [htok]
  show Ex G' 299 (callEnvC (fnAt (K01 P) 276) L 276) _ (lexOwn P lx text (posF text 6) [] ++ [(lx.spb, .list []), (201, pitL), (64, pit)]) _ _
  refine ex_if (c := false) (tst_cmp (n := 291) (d₁ := .tup [.list (dstrs (textL a b x y z n2 ++ [[]])), .int (lineF text (posF text 6))]) (d₂ := .tup [.list (dstrs (textL a b x y z n2 ++ [[]])), .int (1 + (text.count 10 : Nat))]) rfl (ev_tup (evAll_cons (by intro _ _ h; cases h) ?_ (evAll_cons (by intro _ _ h; cases h) (ev_attr (C := 195) (dx := lx.dl) (fs := lexNs 195 (lineF text (posF text 6)) (.inst 195 lx.ds) lx.pb) (d := .int (lineF text (posF text 6))) rfl ?_ ?_ rfl (by rw [hK']; kernel_rfl) (by rw [hK']; kernel_rfl) rfl) evAll_nil)) (by show 2 ≤ sizeLine; decide)) (ev_tup (evAll_cons (by intro _ _ h; cases h) (ev_eq (ev_binop ?_ (ev_list (ds := [.str ((sentF a b x y z).map (figF b)), .str []]) ?_ (by show 2 ≤ sizeLine; decide)) (bin_lists (a := dstrs (shortF (sentF a b x y z) (lostF n2))) ?_)) ?_) (evAll_cons (by intro _ _ h; cases h) (ev_binop ev_int (ev_count (l := text) (c := 10) rfl rfl ?_ (ev_litE rfl)) bin_add) evAll_nil)) (by show 2 ≤ sizeLine; decide)) ?_) (fun h => by cases h) fun _ => ?_
  · repeat' (walk_at "one")
  · repeat' (walk_at "one")
  · simp
  · repeat' (walk_at "one")
  · repeat' (walk_at "one")
  · exact small (lenk (by kernel_rfl))
  · kernel_rfl
  · repeat' (walk_at "one")
  · rw [hline]
    refine cmp_ne_told _ _ ?_ ?_ ?_
    · intro l hl
      rcases List.mem_append.mp hl with h | h
      · obtain ⟨_, h2, h3⟩ := htold l h
        exact ⟨by omega, h3⟩
      · rw [List.mem_singleton.mp h]; exact ⟨by decide, fun c hc => by cases hc⟩
    · exact lenk (by kernel_rfl)
    · have := List.count_le_length (a := 10) (l := text)
      omega
  refine ex_nil ?_
  have hH64 : G'.H₀.get? 64 = none := hH 64 (by simp [keysOf])
  have hW : ∀ w ∈ sentF a b x y z, w ∈ wordsF [a, b] 6 := fun w hw => by
    obtain ⟨s, hs, rfl⟩ := List.mem_map.mp hw
    exact word_in a b (hsix s hs)
  refine ex_compG (ρc := [("pair", .str [a, b])]) (ds := zipped (dstrs (shortF (sentF a b x y z) (lostF n2))) (signs ((sentF a b x y z).map (figF b)))) (outs := dstrs (sentF a b x y z)) (fun _ => lexOwn P lx text (posF text 6) [] ++ [(lx.spb, .list []), (201, pitL), (64, pit)]) (by kernel_rfl) rfl (src_mk rfl rfl ?_ (evAll_cons (by intro _ _ h; cases h) (ev_eq (ev_cut_list (l := dstrs (textL a b x y z n2 ++ [[]])) (i := none) (j := some 4) ?_ evp_none (evp_some ev_int) ?_) ?_) (evAll_cons (by intro _ _ h; cases h) (ev_item rfl ?_ ev_int (item_list (ds := dstrs (textL a b x y z n2 ++ [[]])) (by decide) ?_ (by decide))) evAll_nil)) mk_zip_ls) (fun _ => rfl) rfl (scopeOk_kind rfl) (scopeOk_names rfl) (scopeOk_cell rfl) ?_ (cov_of (by kernel_rfl)) rfl (fun _ => rfl) ?_ (fun C DA i d d' hd hd' => ?_) ?_ ?_
  · repeat' (walk_at "one")
  · repeat' (walk_at "one")
  · exact small (lenk (by kernel_rfl))
  · rw [show (some 4 : Option Int) = some ((4 : Nat) : Int) from rfl, cut_takeA]; rfl
  · repeat' (walk_at "one")
  · rfl
  · walk_at "fsubs"
  · rfl
  · obtain ⟨u, v, hu, hv, rfl⟩ := zipped_get hd
    have hi : i < 4 := by
      have := (List.getElem?_eq_some_iff.mp hd').1
      simpa [dstrs, sentF, sixF] using this
    obtain ⟨w, hw⟩ : ∃ w, (sentF a b x y z)[i]? = some w := ⟨_, List.getElem?_eq_getElem (by simpa [sentF, sixF] using hi)⟩
    obtain ⟨q, hq⟩ : ∃ q, (lostF n2)[i]? = some q := ⟨_, List.getElem?_eq_getElem (by simpa [lostF] using hi)⟩
    have hwm := hW w (List.mem_of_getElem? hw)
    have hw6 := wordsF_len [a, b] 6 w hwm
    obtain ⟨p, hp, rfl⟩ : ∃ p : Nat, p < 6 ∧ q = (p : Int) := by
      obtain ⟨k, _, rfl⟩ := List.mem_map.mp (List.mem_of_getElem? hq)
      exact ⟨(n2 / 6 ^ k % 6).toNat, by omega, by omega⟩
    have hd2 : d' = .str w := by
      rw [dstrs, List.getElem?_map, hw] at hd'
      exact (Option.some.inj hd').symm
    have hu2 : u = .str (w.take p ++ w.drop (p + 1)) := by
      rw [dstrs, List.getElem?_map, shortF, List.getElem?_map, (List.getElem?_zip_eq_some (z := (w, (p : Int)))).mpr ⟨hw, hq⟩] at hu
      exact (Option.some.inj hu).symm
    have hv2 : v = .str [figF b w] := by
      rw [signs, List.getElem?_map, List.getElem?_map, hw] at hv
      exact (Option.some.inj hv).symm
    subst hd2 hu2 hv2
    obtain ⟨m1, m2, m3, m4⟩ := mend_all a b hab w hwm p hp
    refine turnG_pair rfl rfl rfl rfl unp_tup ((evG_T (evT_call (a := 64) (f := 271) (ds := [.str (w.take p ++ w.drop (p + 1)), .int (weightF w [b] % 7), .str [a, b]]) ?_ (by rw [hK']; kernel_rfl) (evAll_cons (by intro _ _ h; cases h) ?_ (evAll_cons (by intro _ _ h; cases h) (ev_callT (ds := [.str [figF b w]]) ?_ ?_ rfl (fn_int_str ?_ (by simp)) rfl) (evAll_cons (by intro _ _ h; cases h) ?_ evAll_nil))) rfl ((mended_is hK' (fun w h1 h2 h3 => translate_is hK' hH64 w h1 h2 h3) hH64 (w.take p ++ w.drop (p + 1)) (weightF w [b] % 7) a b ?_ ?_ ⟨has, hbs⟩ m1 (by rw [m2, m3]) m4).le (by decide)) ?_ rfl)).weaken fun d w' h => ⟨h.1.trans (congrArg D.str m3), h.2⟩)
    · repeat' (walk_at "one")
    · repeat' (walk_at "one")
    · repeat' (walk_at "one")
    · repeat' (walk_at "one")
    · exact (weight_fig w).2.2
    · repeat' (walk_at "one")
    · rw [List.length_append, List.length_take, List.length_drop]; omega
    · intro c hc
      have hcw : c ∈ w := by
        rcases List.mem_append.mp hc with h | h
        · exact List.mem_of_mem_take h
        · exact List.mem_of_mem_drop h
      rcases words_over a b 6 w hwm c hcw with rfl | rfl
      · exact has
      · exact hbs
    · simp
  · exact small (lenk (by kernel_rfl))
  have hsm : ∀ l ∈ sentF a b x y z, l.length ≤ 1000 ∧ ∀ c ∈ l, c < 0x110000 := fun w hw => by
    have hwm := hW w hw
    refine ⟨by rw [wordsF_len [a, b] 6 w hwm]; decide, fun c hc => ?_⟩
    rcases words_over a b 6 w hwm c hc with rfl | rfl
    · exact stock_small _ has
    · exact stock_small _ hbs
  refine ex_if (c := false) (tst_cmp (n := 291) (d₁ := .list (dstrs (sentF a b x y z))) (d₂ := .list (dstrs (sentF a b x y z))) rfl ?_ ?_ ?_) (fun h => by cases h) fun _ => ?_
  · repeat' (walk_at "one")
  · repeat' (walk_at "one")
  · have := cmp_ne_strs hsm hsm (lenk (by kernel_rfl)) (lenk (by kernel_rfl))
    simpa using this
  refine ex_nil ?_
  obtain ⟨g1, g2, g3⟩ := six_dec x y z hx2 hy2 hz2
  have hal : ∀ s, s < 64 → ALPHA.getD s 0 < 128 := fun s hs => (alpha_get s hs).2.1
  refine ex_ret (d := .bool true) (ev_eq (ev_cmp (n := 291) rfl (ev_eq (ev_call (f := 157) (ds := [.str [ALPHA.getD (x / 4) 0, ALPHA.getD (x % 4 * 16 + y / 16) 0, ALPHA.getD (y % 16 * 4 + z / 64) 0, ALPHA.getD (z % 64) 0]]) ?_ (by rw [hK']; kernel_rfl) (evAll_cons (by intro _ _ h; cases h) (ev_eq (ev_join (ps := (sixF x y z).map fun s => [ALPHA.getD s 0]) rfl rfl (ev_litE (l := []) rfl) (ev_comp (ds := dstrs (sentF a b x y z)) (ρc := [("words", .list (dstrs (wordsF [a, b] 6)))]) (out := dstrs ((sixF x y z).map fun s => [ALPHA.getD s 0])) (src_of ?_ iter_list) (fun _ => rfl) rfl (scopeOk_kind rfl) (scopeOk_names rfl) (scopeOk_cell rfl) ?_ (fun C da => ?_) ?_) ?_) ?_) evAll_nil) rfl ((b64decode_is hK' _ _ _ _ ⟨hal _ (by omega), hal _ (by omega), hal _ (by omega), hal _ (by omega)⟩ g1 g2).le (by decide)) rfl) (congrArg D.bytes g3)) ?_ (cmp_eq_bytes (a := [x.toUInt8, y.toUInt8, z.toUInt8]) (b := [x.toUInt8, y.toUInt8, z.toUInt8]))) ?_) ⟨rfl, List.mem_append_right _ (by simp), List.mem_append_right _ (by simp)⟩
  · repeat' (walk_at "one")
  · repeat' (walk_at "one")
  · walk_at "fsubs"
  · have e : dstrs ((sixF x y z).map fun s => [ALPHA.getD s 0]) = (dstrs (sentF a b x y z)).map fun d => D.str [ALPHA.getD ((wordsF [a, b] 6).idxOf d.s) 0] := by
      simp only [dstrs, sentF, List.map_map]
      refine List.map_congr_left fun s hs => ?_
      show D.str _ = D.str [ALPHA.getD ((wordsF [a, b] 6).idxOf ((wordsF [a, b] 6).getD s [])) 0]
      rw [(word_idx a b hab s (hsix s hs)).1]
    rw [e]
    refine loops_map _ rfl rfl fun d hd done => ?_
    obtain ⟨w, hw, rfl⟩ := mem_dstrs hd
    obtain ⟨s, hs, rfl⟩ := List.mem_map.mp hw
    have hs4 := hsix s hs
    obtain ⟨i1, i2⟩ := word_idx a b hab s hs4
    have hwa := word_at a b hs4
    have hl : (wordsF [a, b] 6).length = 64 := by rw [wordsF_card]; rfl
    show Ev _ _ _ _ _ _ (.str [ALPHA.getD ((wordsF [a, b] 6).idxOf ((wordsF [a, b] 6).getD s [])) 0])
    rw [i1]
    refine ev_item rfl (ev_call0 (f := 213) ?_ (by rw [hK']; kernel_rfl) ((alphabet_is hK').le (by decide)) rfl) (ev_lindex (j := s) (ls := wordsF [a, b] 6) (l := (wordsF [a, b] 6).getD s []) rfl rfl ?_ ?_ ?_ i2 (by rw [hl]; decide)) (item_str0 (l := ALPHA) ?_ (by decide))
    · repeat' (walk_at "one")
    · repeat' (walk_at "one")
    · repeat' (walk_at "one")
    · rw [List.getD_eq_getElem?_getD, List.getElem?_eq_getElem (by omega)]; rfl
    · rw [show ALPHA.length = 64 from by decide]; omega
  · exact small (lenk (by kernel_rfl))
  · exact lenk (by kernel_rfl)
  · have : ∀ l : List Nat, joinL [] (l.map fun s => [ALPHA.getD s 0]) = l.map fun s => ALPHA.getD s 0 := fun l => by
      have := join_ones (fun w => ALPHA.getD (w.headD 0) 0) (l.map fun s => [s])
      simpa [List.map_map, Function.comp_def] using this
    rw [this]; rfl
  · repeat' (walk_at "one")
  · simp
end
theorem ints_of {P : Params} {h : Heap} {X : List Addr} : ∀ {vs : List Value} {xs : List WData}, WellAll P h vs xs → WShape.hasItems [] xs .int = true → ∃ ns : List Int, RepAll X h vs (dints ns) ∧ ns.length = xs.length
  | _, [], w, _ => by cases w; exact ⟨[], .nil, rfl⟩
  | _, d :: xs, w, hs => by
    cases w with | cons x r =>
    simp only [WShape.hasItems, Bool.and_eq_true] at hs
    obtain ⟨i, rfl⟩ := hasW_int hs.1
    cases x with | int _ t =>
    obtain ⟨ns, h1, h2⟩ := ints_of r hs.2
    exact ⟨i :: ns, .cons (.int i t) h1, by rw [List.length_cons, List.length_cons, h2]⟩
set_option tactic.hygienic true in
theorem join01 : PySem.Challenge.rw_kq0063_01.Holds := hd01 fun w s₀ s₁ mg mb G Y a o pm cd doc dV kV ho hod hcd hdf hmg hgens args vals as hpre hlay hreads hwell hlow => by
  have X1 : (K01 w.params).In s₁.heap := km_in_of Y
  have ht := km_tabs_of Y
  have hT : TabsAt [(68, 64), (205, 201)] s₁.heap := fun q hq => by
    simp only [List.mem_cons, List.not_mem_nil, or_false] at hq
    rcases hq with rfl | rfl
    · exact ⟨codeHd_of_K X1 (by kernel_rfl), ht 64 (by simp)⟩
    · exact ⟨codeHd_of_K X1 (by kernel_rfl), ht 201 (by simp)⟩
  obtain ⟨hsh, hpr⟩ := pre_splitW hpre
  obtain ⟨d, r, rfl, hd, hr⟩ := hasAllW_cons (R := []) (e := .list .int) (es := []) hsh
  obtain rfl := hasAllW_nil hr
  obtain ⟨xs, rfl, hxs⟩ := hasW_list hd
  have hlen : xs.length ≤ 63 := by
    have h2 : (WTm.holds [] (.and (.not (.lt (.lit (.int 63)) (.len (.arg 0)))) (.lit (.bool true))) { args := [WData.list xs] }) = true := hpr
    clear hpr hpre hcd hod hdf Y G hreads
    unfold WTm.holds at h2
    rw [w_and (w_not (w_lt w_lit (w_len_list (w_arg rfl)))) w_lit] at h2
    by_cases h : (63 : Int) < xs.length
    · rw [decide_eq_true h] at h2
      exact absurd (show false = true from h2) (by decide)
    · omega
  cases hwell with | cons hw hw2 =>
  cases hw2
  cases hw with | list hl hwa =>
  rename_i l us
  let Gd1 : Gd := { K := K01 w.params, prog := PySem.Challenge.rw_kq0063_01.row.toRowW.prog, w := w, p := topProg, loose := _, mean := _, mg := mg, mb := mb, H₀ := ghostOf s₁.heap [(68, 64), (205, 201)], X := ghost_K hT X1 (by kernel_rfl), T := ghost_top hT G.T }
  have h64 := ht 64 (by simp)
  have h201 := ht 201 (by simp)
  have hl1 : l ∉ ([201, 64] : List Addr) := fun q => by
    simp only [List.mem_cons, List.not_mem_nil, or_false] at q
    rcases q with rfl | rfl
    · rw [hl] at h201; cases h201
    · rw [hl] at h64; cases h64
  obtain ⟨ns, hra, hns⟩ := ints_of (X := [201, 64]) hwa hxs
  have hlaw := law_is (G := Gd1) rfl ns (by omega)
  have ha : a = 276 := by
    have e1 := mg_of (n := "law") X1 G.T.g (v := .ref 276) (by kernel_rfl)
    rw [name01] at hmg
    rw [hmg] at e1
    cases e1; rfl
  subst ha
  refine wpAny_mono (hlaw.go [201, 64] callerA s₁ _ [.ref l] ⟨rfl, by decide, by decide⟩ (fun b o e => of_hideAll _ e) (fun b hb => ?_) (.cons (.list ⟨_, hl⟩ hl1 hra) .nil) ⟨fun p hp => ?_, by simp, fun b hb => hideAll_none _ ?_⟩) (fun v s' q => ?_) fun _ _ h => h
  · simp only [List.mem_cons, List.not_mem_nil, or_false] at hb
    rcases hb with rfl | rfl
    · exact ⟨_, h201⟩
    · exact ⟨_, h64⟩
  · simp only [List.mem_cons, List.not_mem_nil, or_false] at hp
    rcases hp with rfl | rfl
    · exact ⟨⟨#[], h201, by constructor, fun pos cv q h1 h2 => (by cases h1)⟩, by simp⟩
    · exact ⟨⟨#[], h64, by constructor, fun pos cv q h1 h2 => (by cases h1)⟩, by simp⟩
  · simp only [keysOf, List.map_cons, List.map_nil, List.mem_cons, List.not_mem_nil, or_false] at hb ⊢
    exact hb.symm
  · obtain ⟨d, c', X', ⟨rfl, hm1, hm2⟩, rep, L⟩ := q
    cases rep
    have keep : ∀ b o, b ≠ 64 → b ≠ 201 → s₁.heap.get? b = some o → s'.heap.get? b = some o := fun b o n1 n2 e => L.keep.heap b o (fun q => by
      simp only [keysOf, List.map_cons, List.map_nil, List.mem_cons, List.not_mem_nil, or_false] at q
      rcases q with q | q
      · exact n2 q
      · exact n1 q) e
    obtain ⟨ps1, g1, _⟩ := (L.owns.all _ hm1).1
    obtain ⟨ps2, g2, _⟩ := (L.owns.all _ hm2).1
    obtain ⟨⟨h', tk, es⟩, _⟩ := L.keep
    refine ⟨.inl ⟨_, .bool true, [], rfl, fun _ => rfl, .bool true, ?_, fun _ => ⟨.nil, fun a ha => by cases ha⟩⟩, ⟨fun b o e => ?_, fun b o e => ?_⟩, by rw [es], ?_⟩
    · show WTm.holds [] (.eq .res (.lit (.bool true))) _ = true
      unfold WTm.holds
      rw [w_eq_bool (w_res rfl) w_lit]
      kernel_rfl
    · by_cases n1 : b = 64
      · subst n1
        rw [h64] at e; cases e
        exact .inr (.inl ⟨((hT (68, 64) (by simp)).1.tab h64).isCodeTable, rfl, #[], ps2, rfl, by rw [Array.empty_append]; exact g2⟩)
      · by_cases n2 : b = 201
        · subst n2
          rw [h201] at e; cases e
          exact .inr (.inl ⟨((hT (205, 201) (by simp)).1.tab h201).isCodeTable, rfl, #[], ps1, rfl, by rw [Array.empty_append]; exact g1⟩)
        · exact .inl (keep b o n1 n2 e)
    · by_cases n1 : b = 64
      · exact ⟨_, n1 ▸ g2⟩
      · by_cases n2 : b = 201
        · exact ⟨_, n2 ▸ g1⟩
        · exact ⟨o, keep b o n1 n2 e⟩
    · exact .of_eq (by rw [es]; exact hgens)
end Mine
end

theorem PySem.Challenge.cw_kq0063_01_holds : PySem.Challenge.rw_kq0063_01.Holds := by
  exact Mine.join01
